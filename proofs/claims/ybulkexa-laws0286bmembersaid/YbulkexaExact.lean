/- THE WALK of 'curve.LawS0286BExact'. -/
import Derived.Test.YbulkexaSect
import Derived.WideShapes
namespace Go.Proofs.Ybulkexa
open Go.RowKit Go.Deep

theorem IsRow.below {k : IntKind} {w w' : World} {a : Option Addr} {len cap : Nat} {zs : List Int} (h : IsRow k w a len cap zs) (hb : Below w.heap.size w w') : IsRow k w' a len cap zs := by
  rcases h with h | ⟨x, h1, h2, h3, h4, h5, h6⟩
  · exact .inl h
  · exact .inr ⟨x, h1, h2, h3, h4, fun i hi => (hb.cell (World.block_lt_of_cell? _ _ (h5 i hi))).trans (h5 i hi), h6⟩
theorem IsRow.spot {k : IntKind} {w : World} {a : Option Addr} {len cap : Nat} {zs : List Int} (h : IsRow k w a len cap zs) {j : Nat} (hj : j < len) :
    ∃ b o, a = some ⟨b, o, none⟩ ∧ ∀ i, i < len → w.cell? ⟨b, o + i, none⟩ = some (.int k (zs.getD i 0)) := by
  rcases h with ⟨_, rfl, _, _⟩ | ⟨x, rfl, h2, h3, h4, h5, h6⟩
  · omega
  · obtain ⟨b, off, spot⟩ := x
    have hspot : spot = none := by simpa [Addr.add] using World.cell?_spot (h5 0 (by omega))
    subst hspot
    exact ⟨b, off, rfl, fun i hi => by rw [← WideShapes.add_plain]; exact h5 i (by omega)⟩
theorem rowIs_below {w w' : World} {b : Nat} {t : TypeId} {n : Nat} {f : Nat → Value} (h : w.rowIs b t n f) (hb : Below w.heap.size w w') : w'.rowIs b t n f := h.of_block (hb.block _ h.lt)
theorem below_alloc (w : World) (o : Obj) : Below w.heap.size w (w.alloc o) := (Below.refl _ _).alloc (Nat.le_refl _) _
theorem blk_lt {w : World} {b : Nat} {o : Obj} (h : w.heap[b]? = some o) : b < w.heap.size := by
  rcases Nat.lt_or_ge b w.heap.size with h' | h'
  · exact h'
  · simp [Array.getElem?_eq_none h'] at h
theorem blk_below {w w' : World} {b : Nat} {o : Obj} (h : w.heap[b]? = some o) (hb : Below w.heap.size w w') : w'.heap[b]? = some o :=
  (hb.block b (blk_lt h)).trans h
theorem below_up {w w1 w2 : World} (h : Below w.heap.size w w1) (k : Below w1.heap.size w1 w2) : Below w.heap.size w w2 := h.trans (k.mono h.size)

theorem run_min4 {P : Program} (ts : Array TypeId) (t : TypeId) (a b c d n : Nat) (h : n = min (min (min a b) c) d) (w : World) :
    (Builtin.min_ ts t #[.int .i64 (a : Int), .int .i64 (b : Int), .int .i64 (c : Int), .int .i64 (d : Int)]).run P w = .ok (.int .i64 (n : Int)) w := by
  have e : (Builtin.min_ ts t #[.int .i64 (a : Int), .int .i64 (b : Int), .int .i64 (c : Int), .int .i64 (d : Int)]).run P w = .ok (.int .i64 (mn (mn (mn a b) c) d)) w := by
    simp [Builtin.min_, Builtin.min2, mn]
  rw [e]
  have : mn (mn (mn a b) c) d = (n : Int) := by unfold mn; subst h; repeat split <;> omega
  rw [this]

set_option maxRecDepth 100000 in
set_option maxHeartbeats 400000 in
theorem exact_short (a0 a1 a2 a3 : Option Addr) (l0 c0 l1 c1 l2 c2 l3 c3 n : Nat) (z0 z1 z2 z3 : List Int) (w : World)
    (i0 : IsRow .u64 w a0 l0 c0 z0) (i1 : IsRow .u64 w a1 l1 c1 z1) (i2 : IsRow .u64 w a2 l2 c2 z2) (i3 : IsRow .u64 w a3 l3 c3 z3)
    (m0 : l0 ≤ 1024) (m1 : l1 ≤ 1024) (m2 : l2 ≤ 1024) (m3 : l3 ≤ 1024) (hn : n = min (min (min l0 l1) l2) l3) :
    Calls Yba.prog 3 #[.slice a0 l0 c0, .slice a1 l1 c1, .slice a2 l2 c2, .slice a3 l3 c3] w fun e w' => e = .returned (.bool true) ∧ Below w.heap.size w w' := by
  have n0 : n ≤ l0 := by omega
  have n1 : n ≤ l1 := by omega
  have n2 : n ≤ l2 := by omega
  have n3 : n ≤ l3 := by omega
  have hmin := run_min4 (P := Yba.prog) #[3, 3, 3, 3] 3 l0 l1 l2 l3 n hn
  clear hn
  go_enter Yba.func3, Yba.ntmps3
  go_wp2_with fail
  clear hmin
  refine (cut_any a0 l0 c0 n z0 _ i0 n0 (by omega)).mono ?_
  rintro e w1 ⟨rfl, R1, B1⟩
  go_wp2_with fail
  refine (cut_any a1 l1 c1 l1 z1 _ (i1.below B1) (Nat.le_refl _) (by omega)).mono ?_
  rintro e w2 ⟨rfl, R2, B2⟩
  go_wp2_with fail
  have B12 := below_up (below_up B1 B2) (below_alloc w2 (.cells #[.slice (some ⟨w.heap.size, 0, none⟩) n n, .slice (some ⟨w1.heap.size, 0, none⟩) l1 l1] 25))
  refine (cut_any a2 l2 c2 n z2 _ (i2.below B12) n2 (by omega)).mono ?_
  rintro e w3 ⟨rfl, R3, B3⟩
  go_wp2_with fail
  refine (cut_any a3 l3 c3 n z3 _ (i3.below (below_up B12 B3)) n3 (by omega)).mono ?_
  rintro e w4 ⟨rfl, R4, B4⟩
  have kb := blk_below (blk_below (blk_alloc_new w2 (.cells #[.slice (some ⟨w.heap.size, 0, none⟩) n n, .slice (some ⟨w1.heap.size, 0, none⟩) l1 l1] 25)) B3) B4
  have kz := blk_lt kb
  have kb0 := cell_blk kb 0
  have kb1 := cell_blk kb 1
  simp at kb0 kb1
  have HK : Hid (w4.heap[w2.heap.size]? = some (.cells #[.slice (some ⟨w.heap.size, 0, none⟩) n n, .slice (some ⟨w1.heap.size, 0, none⟩) l1 l1] 25)) := kb
  clear kb
  go_wp2_with fail
  have X2 := below_alloc w2 (.cells #[.slice (some ⟨w.heap.size, 0, none⟩) n n, .slice (some ⟨w1.heap.size, 0, none⟩) l1 l1] 25)
  have X4 := below_alloc w4 (.cells #[.slice (some ⟨w2.heap.size + 1, 0, none⟩) n n, .slice (some ⟨w3.heap.size, 0, none⟩) n n] 25)
  have Q1 := rowIs_below (rowIs_below (rowIs_below (rowIs_below (rowIs_below R1 B2) X2) B3) B4) X4
  have Q2 := rowIs_below (rowIs_below (rowIs_below (rowIs_below R2 X2) B3) B4) X4
  have Q3 := rowIs_below (rowIs_below R3 B4) X4
  have Q4 := rowIs_below R4 X4
  rw [World.size_alloc] at Q3
  have B14 := below_up (below_up (below_up B12 B3) B4) X4
  refine (intersect_any w.heap.size w1.heap.size (w2.heap.size + 1) w3.heap.size n l1 (fun j => z0.getD j 0) (fun j => z1.getD j 0) (fun j => z2.getD j 0) (fun j => z3.getD j 0) _ n1 m1 (fun j hj => Q1.cell hj) (fun j hj => Q2.cell (Nat.lt_of_lt_of_le hj n1)) (fun j hj => Q3.cell hj) (fun j hj => Q4.cell hj)).mono ?_
  rintro e w5 ⟨h1, h2, rfl, g1, g2, hd, S1, S2, B5⟩
  go_wp2_with fail
  have X5 := below_alloc w5 (.cells #[.slice (some ⟨h1, 0, none⟩) n n, .slice (some ⟨h2, 0, none⟩) l1 l1] 25)
  have kc := blk_below (blk_below (blk_alloc_new w4 (.cells #[.slice (some ⟨w2.heap.size + 1, 0, none⟩) n n, .slice (some ⟨w3.heap.size, 0, none⟩) n n] 25)) B5) X5
  have kr := blk_alloc_new w5 (.cells #[.slice (some ⟨h1, 0, none⟩) n n, .slice (some ⟨h2, 0, none⟩) l1 l1] 25)
  have kb := blk_below (blk_below (blk_below HK.out X4) B5) X5
  have T1 := rowIs_below (rowIs_below Q1 B5) X5
  have T2 := rowIs_below (rowIs_below Q2 B5) X5
  have T3 := rowIs_below (rowIs_below Q3 B5) X5
  have T4 := rowIs_below (rowIs_below Q4 B5) X5
  have T5 := rowIs_below S1 X5
  have T6 := rowIs_below S2 X5
  have BW := below_up (below_up B14 B5) X5
  generalize w5.alloc (.cells #[.slice (some ⟨h1, 0, none⟩) n n, .slice (some ⟨h2, 0, none⟩) l1 l1] 25) = W at kb kc kr T1 T2 T3 T4 T5 T6 BW ⊢
  have kb0 := cell_blk kb 0
  have kb1 := cell_blk kb 1
  have kc0 := cell_blk kc 0
  have kc1 := cell_blk kc 1
  have kr0 := cell_blk kr 0
  have kr1 := cell_blk kr 1
  simp at kb0 kb1 kc0 kc1 kr0 kr1
  have j0 := i0.below BW
  have j1 := i1.below BW
  have j2 := i2.below BW
  have j3 := i3.below BW
  clear i0 i1 i2 i3 kb kc kr B1 B2 B3 B4 B5 X2 X4 X5 Q1 Q2 Q3 Q4 S1 S2 R1 R2 R3 R4 B12 B14 HK kz
  go_loopw [13] (fun i wr => ∃ (k nq : Nat), k ≤ n ∧ i = .int .i64 k ∧ wr = W.drewN nq) (fun i _ => n - (intOf i).toNat)
  case atStart => exact ⟨0, 0, Nat.zero_le _, rfl, rfl⟩
  case round =>
    obtain ⟨k, nq, hk, rfl, rfl⟩ := hrel
    by_cases hlt : k < n
    · obtain ⟨b0, o0, rfl, s0⟩ := j0.spot (Nat.lt_of_lt_of_le hlt n0)
      obtain ⟨b1, o1, rfl, s1⟩ := j1.spot (Nat.lt_of_lt_of_le hlt n1)
      obtain ⟨b2, o2, rfl, s2⟩ := j2.spot (Nat.lt_of_lt_of_le hlt n2)
      obtain ⟨b3, o3, rfl, s3⟩ := j3.spot (Nat.lt_of_lt_of_le hlt n3)
      have x0 := s0 k (Nat.lt_of_lt_of_le hlt n0)
      have x1 := s1 k (Nat.lt_of_lt_of_le hlt n1)
      have x2 := s2 k (Nat.lt_of_lt_of_le hlt n2)
      have x3 := s3 k (Nat.lt_of_lt_of_le hlt n3)
      have y1 := T1.cell hlt
      have y2 := T2.cell (Nat.lt_of_lt_of_le hlt n1)
      have y3 := T3.cell hlt
      have y4 := T4.cell hlt
      have y5 := T5.cell hlt
      have y6 := T6.cell (Nat.lt_of_lt_of_le hlt n1)
      rw [if_pos hlt] at y6
      generalize z0.getD k 0 = v0 at x0 y1 y5
      generalize z1.getD k 0 = v1 at x1 y2 y6
      generalize z2.getD k 0 = v2 at x2 y3 y5
      generalize z3.getD k 0 = v3 at x3 y4 y6
      clear j0 j1 j2 j3 s0 s1 s2 s3 T1 T2 T3 T4 T5 T6
      have hl0 : (k : Int) < (l0 : Int) := by omega
      have hl1 : (k : Int) < (l1 : Int) := by omega
      have hl2 : (k : Int) < (l2 : Int) := by omega
      have hl3 : (k : Int) < (l3 : Int) := by omega
      have hln : (k : Int) < (n : Int) := by omega
      by_cases p : v0 < v2
      · have y5' : W.cell? ⟨h1, k, none⟩ = some (.int .u64 v2) := by rw [y5, mx, if_pos p]
        clear y5
        by_cases q : v3 < v1
        · have y6' : W.cell? ⟨h2, k, none⟩ = some (.int .u64 v3) := by rw [y6, mn, if_pos q]
          clear y6
          go_wp2
          go_quiet (fail)
          go_wp2
          go_roundw
          case rel => exact ⟨k + 1, _, by omega, by go_num, rfl⟩
          case measure => simp [intOf]; omega
        · have y6' : W.cell? ⟨h2, k, none⟩ = some (.int .u64 v1) := by rw [y6, mn, if_neg q]
          clear y6
          go_wp2
          go_quiet (fail)
          go_wp2
          go_roundw
          case rel => exact ⟨k + 1, _, by omega, by go_num, rfl⟩
          case measure => simp [intOf]; omega
      · have y5' : W.cell? ⟨h1, k, none⟩ = some (.int .u64 v0) := by rw [y5, mx, if_neg p]
        clear y5
        by_cases q : v3 < v1
        · have y6' : W.cell? ⟨h2, k, none⟩ = some (.int .u64 v3) := by rw [y6, mn, if_pos q]
          clear y6
          go_wp2
          go_quiet (fail)
          go_wp2
          go_roundw
          case rel => exact ⟨k + 1, _, by omega, by go_num, rfl⟩
          case measure => simp [intOf]; omega
        · have y6' : W.cell? ⟨h2, k, none⟩ = some (.int .u64 v1) := by rw [y6, mn, if_neg q]
          clear y6
          go_wp2
          go_quiet (fail)
          go_wp2
          go_roundw
          case rel => exact ⟨k + 1, _, by omega, by go_num, rfl⟩
          case measure => simp [intOf]; omega
    · obtain rfl : k = n := by omega
      clear T1 T2 T3 T4 T5 j0 j1 j2 j3
      go_wp2
      go_loopw [16] (fun i wr => ∃ (j mq : Nat), k ≤ j ∧ j ≤ l1 ∧ i = .int .i64 j ∧ wr = W.drewN mq) (fun i _ => l1 - (intOf i).toNat)
      case atStart => exact ⟨k, nq, Nat.le_refl _, n1, rfl, rfl⟩
      case round =>
        obtain ⟨j, mq, hj1, hj2, rfl, rfl⟩ := hrel
        by_cases hj : j < l1
        · have y6 := T6.cell hj
          rw [if_neg (by omega)] at y6
          have hl1 : (j : Int) < (l1 : Int) := by omega
          clear T6
          go_wp2
          go_roundw
          case rel => exact ⟨j + 1, _, by omega, by omega, by go_num, rfl⟩
          case measure => simp [intOf]; omega
        · obtain rfl : j = l1 := by omega
          go_wp2
          go_ret
          exact ⟨rfl, below_drewN BW _⟩
end Go.Proofs.Ybulkexa
