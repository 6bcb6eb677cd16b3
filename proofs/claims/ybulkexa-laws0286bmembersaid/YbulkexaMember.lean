/- THE WALK of 'curve.LawS0286BMember'. -/
import Derived.Test.YbulkexaEmpty
import Derived.Deep.RegionWith
namespace Go.Proofs.Ybulkexa
open Go.RowKit Go.Deep

theorem bcell {W w1 : World} (hb : Below W.heap.size W w1) : (∀ b o, b < W.heap.size → w1.cell? ⟨b, o, none⟩ = W.cell? ⟨b, o, none⟩) ∧ (∀ b o, b < W.heap.size → w1.frozen? ⟨b, o, none⟩ = W.frozen? ⟨b, o, none⟩) :=
  ⟨fun b o h => hb.cell (p := ⟨b, o, none⟩) h, fun b o h => hb.frozen (p := ⟨b, o, none⟩) h⟩

theorem run_min5 {P : Program} (ts : Array TypeId) (t : TypeId) (a b c d f n : Nat) (h : n = min (min (min (min a b) c) d) f) (w : World) :
    (Builtin.min_ ts t #[.int .i64 (a : Int), .int .i64 (b : Int), .int .i64 (c : Int), .int .i64 (d : Int), .int .i64 (f : Int)]).run P w = .ok (.int .i64 (n : Int)) w := by
  have e : (Builtin.min_ ts t #[.int .i64 (a : Int), .int .i64 (b : Int), .int .i64 (c : Int), .int .i64 (d : Int), .int .i64 (f : Int)]).run P w = .ok (.int .i64 (mn (mn (mn (mn a b) c) d) f)) w := by
    simp [Builtin.min_, Builtin.min2, mn]
  rw [e]
  have : mn (mn (mn (mn a b) c) d) f = (n : Int) := by unfold mn; subst h; repeat split <;> omega
  rw [this]

/-- The same contract in whatever world a world has grown into. -/
theorem holds_in {W : World} (g1 g2 n : Nat) (f g : Nat → Int) (a : Option Addr) (len cap : Nat) (zs : List Int) (r : Bool) (hn : n ≤ len) (hm : len ≤ 1024) (hr : inB (fun j => zs.getD j 0) f g n = r)
    (i0 : IsRow .u64 W a len cap zs) (R1 : W.rowIs g1 27 n (fun j => .int .u64 (f j))) (R2 : W.rowIs g2 27 n (fun j => .int .u64 (g j))) (X : World) (hX : Below W.heap.size W X) :
    Calls Yba.prog 9 #[.agg #[.slice (some ⟨g1, 0, none⟩) n n, .slice (some ⟨g2, 0, none⟩) n n], .slice a len cap, .int .i64 n] X
      fun e w' => e = .returned (.bool r) ∧ Below W.heap.size W w' :=
  (holds_any g1 g2 n f g a len cap zs r X hn hm hr (i0.below hX) (rowIs_below R1 hX) (rowIs_below R2 hX)).mono fun _ _ ⟨he, hb⟩ => ⟨he, below_up hX hb⟩
theorem empty_in {W : World} (g1 g2 n : Nat) (f g : Nat → Int) (r : Bool) (hm : n ≤ 1024) (hr : emB f g n = r)
    (R1 : W.rowIs g1 27 n (fun j => .int .u64 (f j))) (R2 : W.rowIs g2 27 n (fun j => .int .u64 (g j))) (X : World) (hX : Below W.heap.size W X) :
    Calls Yba.prog 10 #[.agg #[.slice (some ⟨g1, 0, none⟩) n n, .slice (some ⟨g2, 0, none⟩) n n]] X
      fun e w' => e = .returned (.bool r) ∧ Below W.heap.size W w' :=
  (empty_any g1 g2 n f g r X hm hr (rowIs_below R1 hX) (rowIs_below R2 hX)).mono fun _ _ ⟨he, hb⟩ => ⟨he, below_up hX hb⟩

theorem sect_hit {v0 v1 v2 v3 : Int} (h : v3 < v0 ∨ v1 < v2 ∨ v1 < v0 ∨ v3 < v2) : decide (mn v1 v3 < mx v0 v2) = true := by
  unfold mn mx
  apply decide_eq_true
  split <;> split <;> omega
theorem sect_miss {v0 v1 v2 v3 : Int} (h1 : ¬ v3 < v0) (h2 : ¬ v1 < v2) (h3 : ¬ v1 < v0) (h4 : ¬ v3 < v2) : decide (mn v1 v3 < mx v0 v2) = false := by
  unfold mn mx
  apply decide_eq_false
  split <;> split <;> omega

set_option maxRecDepth 100000 in
set_option maxHeartbeats 4000000 in
theorem member_short (a0 a1 a2 a3 a4 : Option Addr) (l0 c0 l1 c1 l2 c2 l3 c3 l4 c4 n : Nat) (z0 z1 z2 z3 z4 : List Int) (w : World)
    (i0 : IsRow .u64 w a0 l0 c0 z0) (i1 : IsRow .u64 w a1 l1 c1 z1) (i2 : IsRow .u64 w a2 l2 c2 z2) (i3 : IsRow .u64 w a3 l3 c3 z3) (i4 : IsRow .u64 w a4 l4 c4 z4)
    (m0 : l0 ≤ 1024) (m1 : l1 ≤ 1024) (m2 : l2 ≤ 1024) (m3 : l3 ≤ 1024) (m4 : l4 ≤ 1024) (hn : n = min (min (min (min l0 l1) l2) l3) l4) :
    Calls Yba.prog 4 #[.slice a0 l0 c0, .slice a1 l1 c1, .slice a2 l2 c2, .slice a3 l3 c3, .slice a4 l4 c4] w fun e w' => e = .returned (.bool true) ∧ Below w.heap.size w w' := by
  have n0 : n ≤ l0 := by omega
  have n1 : n ≤ l1 := by omega
  have n2 : n ≤ l2 := by omega
  have n3 : n ≤ l3 := by omega
  have n4 : n ≤ l4 := by omega
  have hmin := run_min5 (P := Yba.prog) #[3, 3, 3, 3, 3] 3 l0 l1 l2 l3 l4 n hn
  clear hn
  go_enter Yba.func4, Yba.ntmps4
  go_wp2_with fail
  clear hmin
  refine (cut_any a0 l0 c0 n z0 _ i0 n0 (by omega)).mono ?_
  rintro e w1 ⟨rfl, R1, B1⟩
  go_wp2_with fail
  refine (cut_any a1 l1 c1 n z1 _ (i1.below B1) n1 (by omega)).mono ?_
  rintro e w2 ⟨rfl, R2, B2⟩
  go_wp2_with fail
  have B12 := below_up (below_up B1 B2) (below_alloc w2 (.cells #[.slice (some ⟨w.heap.size, 0, none⟩) n n, .slice (some ⟨w1.heap.size, 0, none⟩) n n] 25))
  refine (cut_any a2 l2 c2 n z2 _ (i2.below B12) n2 (by omega)).mono ?_
  rintro e w3 ⟨rfl, R3, B3⟩
  go_wp2_with fail
  refine (cut_any a3 l3 c3 n z3 _ (i3.below (below_up B12 B3)) n3 (by omega)).mono ?_
  rintro e w4 ⟨rfl, R4, B4⟩
  have kb := blk_below (blk_below (blk_alloc_new w2 (.cells #[.slice (some ⟨w.heap.size, 0, none⟩) n n, .slice (some ⟨w1.heap.size, 0, none⟩) n n] 25)) B3) B4
  have kz := blk_lt kb
  have kb0 := cell_blk kb 0
  have kb1 := cell_blk kb 1
  simp at kb0 kb1
  have HK : Hid (w4.heap[w2.heap.size]? = some (.cells #[.slice (some ⟨w.heap.size, 0, none⟩) n n, .slice (some ⟨w1.heap.size, 0, none⟩) n n] 25)) := kb
  clear kb
  go_wp2_with fail
  have X2 := below_alloc w2 (.cells #[.slice (some ⟨w.heap.size, 0, none⟩) n n, .slice (some ⟨w1.heap.size, 0, none⟩) n n] 25)
  have X4 := below_alloc w4 (.cells #[.slice (some ⟨w2.heap.size + 1, 0, none⟩) n n, .slice (some ⟨w3.heap.size, 0, none⟩) n n] 25)
  have Q1 := rowIs_below (rowIs_below (rowIs_below (rowIs_below (rowIs_below R1 B2) X2) B3) B4) X4
  have Q2 := rowIs_below (rowIs_below (rowIs_below (rowIs_below R2 X2) B3) B4) X4
  have Q3 := rowIs_below (rowIs_below R3 B4) X4
  have Q4 := rowIs_below R4 X4
  rw [World.size_alloc] at Q3
  have B14 := below_up (below_up (below_up B12 B3) B4) X4
  refine (intersect_any w.heap.size w1.heap.size (w2.heap.size + 1) w3.heap.size n n (fun j => z0.getD j 0) (fun j => z1.getD j 0) (fun j => z2.getD j 0) (fun j => z3.getD j 0) _ (Nat.le_refl _) (by omega) (fun j hj => Q1.cell hj) (fun j hj => Q2.cell hj) (fun j hj => Q3.cell hj) (fun j hj => Q4.cell hj)).mono ?_
  rintro e w5 ⟨h1, h2, rfl, g1, g2, hd, S1, S2, B5⟩
  go_upto_region 7 with fail
  have X5 := below_alloc w5 (.cells #[.slice (some ⟨h1, 0, none⟩) n n, .slice (some ⟨h2, 0, none⟩) n n] 25)
  have kc := blk_below (blk_below (blk_alloc_new w4 (.cells #[.slice (some ⟨w2.heap.size + 1, 0, none⟩) n n, .slice (some ⟨w3.heap.size, 0, none⟩) n n] 25)) B5) X5
  have kr := blk_alloc_new w5 (.cells #[.slice (some ⟨h1, 0, none⟩) n n, .slice (some ⟨h2, 0, none⟩) n n] 25)
  have kb := blk_below (blk_below (blk_below HK.out X4) B5) X5
  have T1 := rowIs_below (rowIs_below Q1 B5) X5
  have T2 := rowIs_below (rowIs_below Q2 B5) X5
  have T3 := rowIs_below (rowIs_below Q3 B5) X5
  have T4 := rowIs_below (rowIs_below Q4 B5) X5
  have T5 := rowIs_below S1 X5
  have T6 := rowIs_below S2 X5
  have BW := below_up (below_up B14 B5) X5
  generalize w5.alloc (.cells #[.slice (some ⟨h1, 0, none⟩) n n, .slice (some ⟨h2, 0, none⟩) n n] 25) = W at kb kc kr T1 T2 T3 T4 T5 T6 BW ⊢
  have kb0 := cell_blk kb 0
  have kb1 := cell_blk kb 1
  have kc0 := cell_blk kc 0
  have kc1 := cell_blk kc 1
  have kr0 := cell_blk kr 0
  have kr1 := cell_blk kr 1
  simp at kb0 kb1 kc0 kc1 kr0 kr1
  have zb := blk_lt kb
  have zc := blk_lt kc
  have zr := blk_lt kr
  have j0 := i0.below BW
  have j1 := i1.below BW
  have j2 := i2.below BW
  have j3 := i3.below BW
  have j4 := i4.below BW
  clear i0 i1 i2 i3 i4 kb kc kr B1 B2 B3 B4 B5 X2 X4 X5 Q1 Q2 Q3 Q4 S1 S2 R1 R2 R3 R4 B12 B14 HK kz
  go_cut [79] (fun s79 wx => s79 = .bool false ∧ W = wx)
  case first =>
    clear T1 T2 T3 T4 T5 T6 j0 j1 j2 j3 j4 BW
    go_wp2_with fail
    go_meet
    exact ⟨rfl, rfl⟩
  obtain ⟨rfl, hwc⟩ := hcut
  subst hwc
  go_upto_region 9 with fail
  obtain ⟨rb, hrb⟩ : ∃ rb, inB (fun j => z4.getD j 0) (fun j => z0.getD j 0) (fun j => z1.getD j 0) n = rb := ⟨_, rfl⟩
  obtain ⟨rc, hrc⟩ : ∃ rc, inB (fun j => z4.getD j 0) (fun j => z2.getD j 0) (fun j => z3.getD j 0) n = rc := ⟨_, rfl⟩
  have hrr := inB_sect (fun j => z4.getD j 0) (fun j => z0.getD j 0) (fun j => z1.getD j 0) (fun j => z2.getD j 0) (fun j => z3.getD j 0) n (fun j => mx (z0.getD j 0) (z2.getD j 0)) (fun j => if j < n then mn (z1.getD j 0) (z3.getD j 0) else 0) (fun _ _ => rfl) (fun j hj => by simp only [if_pos hj])
  rw [hrb, hrc] at hrr
  have Hb := holds_in w.heap.size w1.heap.size n _ _ a4 l4 c4 z4 rb n4 m4 hrb j4 T1 T2
  have Hc := holds_in (w2.heap.size + 1) w3.heap.size n _ _ a4 l4 c4 z4 rc n4 m4 hrc j4 T3 T4
  have Hr := holds_in h1 h2 n _ _ a4 l4 c4 z4 (rb && rc) n4 m4 hrr j4 T5 T6
  clear hrb hrc hrr
  go_cut [94] (fun s94 wx => s94 = .bool false ∧ Below W.heap.size W wx)
  case first =>
    clear T1 T2 T3 T4 T5 T6 j0 j1 j2 j3 j4 BW
    cases rb with
    | false =>
      simp only [Bool.false_and] at Hr
      first
        | (go_region_with (first
            | (go_at_call_of 9 (Value.slice (some ⟨h1, 0, none⟩) n n); refine (Hr _ ?_).mono ?_; (first | assumption | exact (Below.refl _ _).drew); rintro e w' ⟨rfl, hB⟩; obtain ⟨hc1, hf1⟩ := bcell hB)
            | (go_at_call_of 9 (Value.slice (some ⟨w.heap.size, 0, none⟩) n n); refine (Hb _ ?_).mono ?_; (first | assumption | exact (Below.refl _ _).drew); rintro e w' ⟨rfl, hB⟩; obtain ⟨hc1, hf1⟩ := bcell hB)
            | (go_at_call_of 9 (Value.slice (some ⟨w3.heap.size, 0, none⟩) n n); refine (Hc _ ?_).mono ?_; (first | assumption | exact (Below.refl _ _).drew); rintro e w' ⟨rfl, hB⟩; obtain ⟨hc1, hf1⟩ := bcell hB)))
        | fail
      all_goals (go_wp2_with fail; go_meet)
      all_goals (first | exact ⟨rfl, by assumption⟩ | skip)
    | true =>
      simp only [Bool.true_and] at Hr
      first
        | (go_region_with (first
            | (go_at_call_of 9 (Value.slice (some ⟨h1, 0, none⟩) n n); refine (Hr _ ?_).mono ?_; (first | assumption | exact (Below.refl _ _).drew); rintro e w' ⟨rfl, hB⟩; obtain ⟨hc1, hf1⟩ := bcell hB)
            | (go_at_call_of 9 (Value.slice (some ⟨w.heap.size, 0, none⟩) n n); refine (Hb _ ?_).mono ?_; (first | assumption | exact (Below.refl _ _).drew); rintro e w' ⟨rfl, hB⟩; obtain ⟨hc1, hf1⟩ := bcell hB)
            | (go_at_call_of 9 (Value.slice (some ⟨w3.heap.size, 0, none⟩) n n); refine (Hc _ ?_).mono ?_; (first | assumption | exact (Below.refl _ _).drew); rintro e w' ⟨rfl, hB⟩; obtain ⟨hc1, hf1⟩ := bcell hB)))
        | fail
      all_goals (go_wp2_with fail; go_meet)
      all_goals (first | exact ⟨rfl, by assumption⟩ | skip)
  case rest =>
    obtain ⟨rfl, BX⟩ := hcut
    clear Hb Hc Hr zb zc
    obtain ⟨re, hre⟩ : ∃ re, emB (fun j => mx (z0.getD j 0) (z2.getD j 0)) (fun j => if j < n then mn (z1.getD j 0) (z3.getD j 0) else 0) n = re := ⟨_, rfl⟩
    have He := empty_in h1 h2 n _ _ re (by omega) hre T5 T6
    have hre2 : emB (fun j => mx (z0.getD j 0) (z2.getD j 0)) (fun j => mn (z1.getD j 0) (z3.getD j 0)) n = re := by
      rw [← hre]; exact emB_congr fun j hj => ⟨rfl, by simp only [if_pos hj]⟩
    have HE2 : Hid (emB (fun j => mx (z0.getD j 0) (z2.getD j 0)) (fun j => mn (z1.getD j 0) (z3.getD j 0)) n = re) := hre2
    clear hre hre2 T1 T2 T3 T4 T5 T6 j4 kb0 kb1 kc0 kc1
    have j0 := j0.below BX
    have j1 := j1.below BX
    have j2 := j2.below BX
    have j3 := j3.below BX
    have kr0 := ((bcell BX).1 w5.heap.size 0 zr).trans kr0
    have kr1 := ((bcell BX).1 w5.heap.size 1 zr).trans kr1
    go_wp2
    go_loopw [15, 16] (fun s i wr => ∃ (k nq : Nat) (t : Bool), k ≤ n ∧ i = .int .i64 k ∧ wr = wc.drewN nq ∧ s = .bool t ∧ Hid (emB (fun j => mx (z0.getD j 0) (z2.getD j 0)) (fun j => mn (z1.getD j 0) (z3.getD j 0)) k = t)) (fun _ i _ => n - (intOf i).toNat)
    case atStart => exact ⟨0, 0, false, Nat.zero_le _, rfl, rfl, rfl, rfl⟩
    case round =>
      obtain ⟨k, nq, t, hk, rfl, rfl, rfl, HI⟩ := hrel
      by_cases hlt : k < n
      · obtain ⟨b0, o0, rfl, s0⟩ := j0.spot (Nat.lt_of_lt_of_le hlt n0)
        obtain ⟨b1, o1, rfl, s1⟩ := j1.spot (Nat.lt_of_lt_of_le hlt n1)
        obtain ⟨b2, o2, rfl, s2⟩ := j2.spot (Nat.lt_of_lt_of_le hlt n2)
        obtain ⟨b3, o3, rfl, s3⟩ := j3.spot (Nat.lt_of_lt_of_le hlt n3)
        have x0 := s0 k (Nat.lt_of_lt_of_le hlt n0)
        have x1 := s1 k (Nat.lt_of_lt_of_le hlt n1)
        have x2 := s2 k (Nat.lt_of_lt_of_le hlt n2)
        have x3 := s3 k (Nat.lt_of_lt_of_le hlt n3)
        have HE : Hid (emB (fun j => mx (z0.getD j 0) (z2.getD j 0)) (fun j => mn (z1.getD j 0) (z3.getD j 0)) (k + 1) = (emB (fun j => mx (z0.getD j 0) (z2.getD j 0)) (fun j => mn (z1.getD j 0) (z3.getD j 0)) k || decide (mn (z1.getD k 0) (z3.getD k 0) < mx (z0.getD k 0) (z2.getD k 0)))) := rfl
        generalize z0.getD k 0 = v0 at x0 HE
        generalize z1.getD k 0 = v1 at x1 HE
        generalize z2.getD k 0 = v2 at x2 HE
        generalize z3.getD k 0 = v3 at x3 HE
        clear j0 j1 j2 j3 s0 s1 s2 s3 He kr0 kr1
        have hl0 : (k : Int) < (l0 : Int) := by omega
        have hl1 : (k : Int) < (l1 : Int) := by omega
        have hl2 : (k : Int) < (l2 : Int) := by omega
        have hl3 : (k : Int) < (l3 : Int) := by omega
        have hln : (k : Int) < (n : Int) := by omega
        by_cases p1 : v3 < v0
        · have d1 : decide (v3 < v0) = true := decide_eq_true p1
          go_wp2_with fail
          go_quiet (fail)
          go_wp2
          go_roundw
          case rel => exact ⟨k + 1, _, true, by omega, by go_num, rfl, rfl, show _ = _ from by rw [HE.out, sect_hit (.inl p1), Bool.or_true]⟩
          case measure => simp [intOf]; omega
        have d1 : decide (v3 < v0) = false := decide_eq_false p1
        by_cases p2 : v1 < v2
        · have d2 : decide (v1 < v2) = true := decide_eq_true p2
          go_wp2_with fail
          go_quiet (fail)
          go_wp2
          go_roundw
          case rel => exact ⟨k + 1, _, true, by omega, by go_num, rfl, rfl, show _ = _ from by rw [HE.out, sect_hit (.inr (.inl p2)), Bool.or_true]⟩
          case measure => simp [intOf]; omega
        have d2 : decide (v1 < v2) = false := decide_eq_false p2
        by_cases p3 : v1 < v0
        · have d3 : decide (v1 < v0) = true := decide_eq_true p3
          go_wp2_with fail
          go_quiet (fail)
          go_wp2
          go_roundw
          case rel => exact ⟨k + 1, _, true, by omega, by go_num, rfl, rfl, show _ = _ from by rw [HE.out, sect_hit (.inr (.inr (.inl p3))), Bool.or_true]⟩
          case measure => simp [intOf]; omega
        have d3 : decide (v1 < v0) = false := decide_eq_false p3
        by_cases p4 : v3 < v2
        · have d4 : decide (v3 < v2) = true := decide_eq_true p4
          go_wp2_with fail
          go_quiet (fail)
          go_wp2
          go_roundw
          case rel => exact ⟨k + 1, _, true, by omega, by go_num, rfl, rfl, show _ = _ from by rw [HE.out, sect_hit (.inr (.inr (.inr p4))), Bool.or_true]⟩
          case measure => simp [intOf]; omega
        · have d4 : decide (v3 < v2) = false := decide_eq_false p4
          go_wp2_with fail
          go_quiet (fail)
          go_wp2
          go_roundw
          case rel => exact ⟨k + 1, _, t, by omega, by go_num, rfl, rfl, show _ = _ from by rw [HE.out, sect_miss (by omega) (by omega) (by omega) (by omega), Bool.or_false]; exact HI.out⟩
          case measure => simp [intOf]; omega
      · obtain rfl : k = n := by omega
        obtain rfl : t = re := HI.out.symm.trans HE2.out
        go_wp2_with fail
        refine (He _ (below_drewN BX _)).mono ?_
        rintro e w' ⟨rfl, hB⟩
        go_wp2
        go_ret
        refine ⟨?_, BW.trans (hB.mono BW.size)⟩
        rfl
end Go.Proofs.Ybulkexa
