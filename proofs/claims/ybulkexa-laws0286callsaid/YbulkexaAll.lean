/- THE WALK of 'node.LawS0286CAll'. -/
import Derived.Test.YbulkexaGot
namespace Go.Proofs.Ybulkexa
open Go.RowKit Go.Deep

/-- What from has left behind: the count, and the records from g on. -/
structure Gath (W0 W : World) (kb : Nat → Nat) (g n total : Nat) (ga : Option Addr) (gl gc : Nat) : Prop where
  bel : Below W0.heap.size W0 W
  cnt : W.heap[W0.heap.size]? = some (.cells #[.int .i64 (total : Int)] 3 (0, 0))
  got : W.heap[W0.heap.size + 1]? = some (.cells #[.slice ga gl gc] 34 (0, 0))
  own : W.ownsRow W0.heap.size 48 5 (.slice ga gl gc) (n - g) (recCells kb g (n - g))
theorem Gath.drew {W0 W : World} {kb : Nat → Nat} {g n total : Nat} {ga : Option Addr} {gl gc : Nat} (h : Gath W0 W kb g n total ga gl gc) (k : Nat) : Gath W0 (W.drewN k) kb g n total ga gl gc :=
  ⟨below_drewN h.bel k, h.cnt, h.got, h.own⟩

theorem gath_of {W0 W : World} {kb : Nat → Nat} {L : List (Nat × Nat)} {g n : Nat} (h : allI W0 kb L W) (h1 : tot L = n - g) (h2 : gotCells kb L = recCells kb g (n - g)) : ∃ ga gl gc, Gath W0 W kb g n L.length ga gl gc := by
  obtain ⟨a, b, _, gv, c, d⟩ := h
  obtain ⟨ga, gl, gc, rfl⟩ := slice_of_own d
  rw [h1, h2] at d
  exact ⟨ga, gl, gc, a, b, c, d⟩
theorem gath_tree {W0 W : World} {kb P : Nat → Nat} {s i m n : Nat} {b : Bool} (h : Ends allR (allI W0 kb) s P i m b W) (hi : i < m) (hs : s ≤ P (i + 1)) (hm : ∀ j, j < m → P j < P (j + 1)) (hl : P m = n) :
    b = true ∧ ∃ ga gl gc, Gath W0 W kb s n (m - i) ga gl gc := by
  obtain ⟨k, hk, hI, ⟨rfl, rfl, _⟩ | ⟨_, _, h, _⟩⟩ := h
  · obtain ⟨h1, h2, _⟩ := got_strs kb (k := m - i) (by omega) hs fun j hj => Nat.le_of_lt (hm (i + j) (by omega))
    rw [show i + (m - i) = m from by omega, hl] at h1 h2
    have := gath_of hI h1 h2
    rw [strs_length] at this
    exact ⟨rfl, this⟩
  · cases h
theorem gath_flat {W0 W : World} {kb : Nat → Nat} {s n : Nat} (h : allI W0 kb ([] ++ [(s, n)]) W) : ∃ ga gl gc, Gath W0 W kb s n 1 ga gl gc := by
  have := gath_of (g := s) (n := n) h (by simp [tot]) (by simp [gotCells])
  simpa using this

theorem own_addr {w : World} {base size n l c : Nat} {e : TypeId} {a : Option Addr} {xs : List Value} (h : w.ownsRow base e size (.slice a l c) n xs) (hn : 0 < n) :
    ∃ g, a = some ⟨g, 0, none⟩ ∧ ∀ i u, xs[i]? = some u → w.cell? ⟨g, i, none⟩ = some u := by
  have h' := h
  obtain ⟨_, ⟨h1, h2⟩ | ⟨g, cap, cur, h1, _⟩⟩ := h
  · omega
  · cases h1
    exact ⟨g, rfl, fun i u hi => own_cell h' hi⟩

/-- The place among all the records, out of the place among the leaves and the place in the leaf. -/
theorem lowB_join {X : Nat → Int} {P : Nat → Nat} {m n r s : Nat} {y : Int} (hm : ∀ a b, a ≤ b → b < n → X a ≤ X b) (hP : ∀ j, j < m → P j < P (j + 1)) (h0 : P 0 = 0) (hl : P m = n) (hpos : 1 ≤ m)
    (hr : LowB (fun j => X (P j)) m y r) (hs : LowB (fun j => X (P (r - 1) + j)) (P (r - 1 + 1) - P (r - 1)) y s) : LowB X n y (P (r - 1) + s) := by
  have hrm := hr.1
  have hj : r - 1 < m := by omega
  have hp := hP (r - 1) hj
  have hle : P (r - 1 + 1) ≤ n := by rw [← hl]; exact P_mono hP _ _ (by omega) (Nat.le_refl _)
  refine ⟨by have := hs.1; omega, fun t ht => ?_, fun t ht hn => ?_⟩
  · by_cases hlt : t < P (r - 1)
    · have hr0 : 0 < r := by
        rcases Nat.eq_zero_or_pos r with e | e
        · rw [e] at hlt; simp [h0] at hlt
        · exact e
      have h1 := hr.2.1 (r - 1) (by omega)
      have h2 := hm t (P (r - 1)) (by omega) (by omega)
      simp only at h1
      omega
    · have := hs.2.1 (t - P (r - 1)) (by omega)
      simp only at this
      rwa [show P (r - 1) + (t - P (r - 1)) = t from by omega] at this
  · by_cases hlt : t < P (r - 1 + 1)
    · have := hs.2.2 (t - P (r - 1)) (by omega) (by omega)
      simp only at this
      rwa [show P (r - 1) + (t - P (r - 1)) = t from by omega] at this
    · -- the next leaf's first record is at y or beyond
      have hrl : r - 1 + 1 < m := by
        rcases Nat.lt_or_ge (r - 1 + 1) m with h | h
        · exact h
        · have e : r - 1 + 1 = m := by omega
          rw [e, hl] at hlt; omega
      have h1 := hr.2.2 (r - 1 + 1) (by omega) hrl
      have h2 := hm (P (r - 1 + 1)) t (by omega) hn
      simp only at h1
      omega

theorem rec_news (w : World) (N : Nat) (hN : N = w.heap.size) (b : Nat) (s : Int) : ∀ (j : Nat) (u : Value), [Value.pointer (some ⟨b, 0, none⟩), .slice none 0 0, .slice none 0 0, .slice none 0 0, .int .u64 s][j]? = some u → (w.alloc (.cells #[.pointer (some ⟨b, 0, none⟩), .slice none 0 0, .slice none 0 0, .slice none 0 0, .int .u64 s] 48)).cell? ((⟨N, 0, none⟩ : Addr).add j) = some u := by
  subst hN
  intro j u hj
  have e := cell_at (blk_alloc_new w (.cells #[.pointer (some ⟨b, 0, none⟩), .slice none 0 0, .slice none 0 0, .slice none 0 0, .int .u64 s] 48)) (0 + j)
  rw [WideShapes.add_plain, e, Nat.zero_add]
  simpa using hj
theorem rec_ones (b : Nat) (s : Int) : ∀ u ∈ [Value.pointer (some ⟨b, 0, none⟩), .slice none 0 0, .slice none 0 0, .slice none 0 0, .int .u64 s], u.oneCell' = true := by
  intro u hu
  simp at hu
  rcases hu with rfl | rfl | rfl <;> rfl
theorem cmpZ_eq_of {x y : Int} (h : ¬ x < y) : 0 ≤ cmpZ x y := cmpZ_ge h

set_option maxRecDepth 100000 in
set_option maxHeartbeats 400000 in
theorem all_long (a0 a1 : Option Addr) (l0 c0 l1 c1 : Nat) (x : Int) (hf fl : Bool) (w : World) (h : 1024 < l0) (_hm : l0 ≤ 9223372036854775807) :
    Calls Yba.prog 5 #[.slice a0 l0 c0, .slice a1 l1 c1, .int .i64 x, .bool hf, .bool fl] w fun e w' => e = .returned (.bool true) ∧ Below w.heap.size w w' := by
  go_enter Yba.func5, Yba.ntmps5
  go_wp2
  go_ret
  exact ⟨rfl, Below.refl _ _⟩

set_option maxRecDepth 100000 in
set_option maxHeartbeats 2000000 in
theorem all_tree_none (a0 a1 : Option Addr) (l0 c0 l1 c1 : Nat) (x : Int) (z0 z1 : List Int) (w : World) (hn : l0 ≤ 1024) (hpos : 0 < l0) (i0 : IsRow .u8 w a0 l0 c0 z0) (i1 : IsRow .u8 w a1 l1 c1 z1) :
    Calls Yba.prog 5 #[.slice a0 l0 c0, .slice a1 l1 c1, .int .i64 x, .bool false, .bool false] w fun e w' => e = .returned (.bool true) ∧ Below w.heap.size w w' := by
  have hbz := i0.bytes
  have HBZ : Hid (∀ j, 0 ≤ z0.getD j 0 ∧ z0.getD j 0 ≤ 255) := hbz
  clear hbz
  go_enter Yba.func5, Yba.ntmps5
  go_wp2_with fail
  refine (build_tree a0 a1 l0 c0 l1 c1 z0 z1 w hn hpos i0 i1).mono ?_
  rintro e wy ⟨t, kg, kc, fg, fc, m, kb, nd, P, rfl, T⟩
  obtain ⟨rg, hrg⟩ : ∃ rg, rg = w.heap.size := ⟨_, rfl⟩
  rw [← hrg] at T ⊢
  have hpm := T.root.pos
  have hfm := T.root.few
  have HD := T.held
  have BY := T.bel
  clear i0 i1 hrg
  obtain ⟨wz, hwz⟩ : ∃ wz, wz = wy := ⟨_, rfl⟩
  have BQ : Below wy.heap.size wy wz := by rw [hwz]; exact Below.refl _ _
  rw [← hwz]
  clear hwz
  have BZ := below_up' BY BQ
  have HDz := HD.below BQ
  go_wp2_with fail
  have Y := all_yields wz l0 rg kb (fun j hj => HDz.recs.at (Nat.le_refl _) hj)
  refine (root_all Y t kg m kc kb nd P _ (allI_start wz kb) (T.root.below BQ)).mono ?_
  rintro e w5 ⟨b, rfl, hE⟩
  obtain ⟨rfl, ga, gl, gc, G⟩ := gath_tree hE (by omega) (Nat.le_of_lt (T.root.lt 0 (by omega))) T.root.lt T.last
  rw [T.zero] at G
  simp only [Nat.sub_zero] at G
  obtain ⟨g, hg0⟩ : ∃ g, g = 0 := ⟨_, rfl⟩
  have G : Gath wz w5 kb g l0 m ga gl gc := by rw [hg0]; exact G
  obtain ⟨total, htt⟩ : ∃ total, total = m := ⟨_, rfl⟩
  rw [← htt] at G
  have htm : total ≤ 1024 := by omega
  have HC : ∀ j, Calls Yba.prog 15 #[.slice (some ⟨fg, 0, none⟩) m fc, .bool false, .pointer none] (w5.drewN j) fun e w' => e = .returned (.int .i64 total) ∧ ∃ m, w' = (w5.drewN j).drewN m := fun j => by rw [htt]; exact calls_all false fg m fc _ hfm
  have HG0 : Hid (g = 0) := hg0
  clear htt hE T hg0 HD
  have HD5 := HDz.below G.bel
  have BF := below_up' BZ G.bel
  have c5 := (cell_at G.cnt 0).trans (show #[Value.int .i64 (total : Int)][0]? = some (.int .i64 (total : Int)) from rfl)
  have g5 := (cell_at G.got 0).trans (show #[Value.slice ga gl gc][0]? = some (.slice ga gl gc) from rfl)
  clear Y HDz BQ BY BZ
  go_wp2_with fail
  go_quiet ((go_at_call 15; exact Calls.quiet_of (HC _)))
  clear HC
  go_wp2_with fail
  have Gl := G.drew nq
  have HDl : Held (w5.drewN nq) rg l0 kb z0 := ⟨HD5.recs, HD5.keys⟩
  have BFl := below_drewN BF nq
  clear G HD5 BF c5 g5 
  generalize w5.drewN nq = wl at Gl HDl BFl  ⊢
  obtain ⟨i48, hi48, hz48, hs48, hb48⟩ := info_parts info48
  go_loopw [18, 50] (fun wv x wr => ∃ k : Nat, k ≤ l0 ∧ x = .int .i64 k ∧ wr.ownsRow wl.heap.size 48 5 wv (k - g) (recCells kb g (k - g)) ∧ Below wl.heap.size wl wr) (fun _ x _ => l0 - (intOf x).toNat)
  case atStart => exact ⟨0, Nat.zero_le _, rfl, by rw [Nat.zero_sub]; exact ⟨rfl, .inl ⟨rfl, rfl⟩⟩, Below.refl _ _⟩
  case round =>
    obtain ⟨k, hk, rfl, hown, hB⟩ := hrel
    by_cases hlt : k < l0
    · obtain ⟨p0, p1, p2, p3, p4⟩ := (HDl.recs.at (Nat.le_refl _) hlt).below hB
      have hki : (k : Int) < (l0 : Int) := by omega
      have hsz := hB.size
      have hgk : g ≤ k := by have := HG0.out; omega
      go_wp2_with (at_builtin; refine wpList_append_own _ rfl (.tmp 63) (.tmp 65) 34 rfl wl.heap.size 48 i48 _ 5 88 Yba.underlying34 hi48 hz48 hs48 hb48 rfl (by decide) u18 (k - g) (recCells kb g (k - g)) rfl ?_ ⟨wr.heap.size + 1, 0, none⟩ 1 1 [.pointer (some ⟨kb k, 0, none⟩), .slice none 0 0, .slice none 0 0, .slice none 0 0, .int .u64 (k : Int)] rfl rfl ?_ (rec_ones _ _) ?_ ?_ ?_ ?_; exact hown.alloc _ |>.alloc _; exact rec_news _ _ (by simp) _ _; (unfold maxLen; omega); omega; (simp; omega); intro v' w1 ho hg _)
      have ho' : w1.ownsRow wl.heap.size 48 5 v' (k + 1 - g) (recCells kb g (k + 1 - g)) := by
        rw [show k + 1 - g = k - g + 1 from by omega, recCells, show g + (k - g) = k from by omega]
        exact ho
      have hB' : Below wl.heap.size wl w1 := ((hB.alloc hsz _).alloc (by simp; omega) _).grown hg (by simp; omega) (own_base hown)
      clear ho hg
      go_wp2
      go_roundw
      case rel => exact ⟨k + 1, by omega, by go_num, ho', hB'⟩
      case measure => simp [intOf]; omega
    · obtain rfl : k = l0 := by omega
      obtain ⟨wa, wn, wc, hwv⟩ := slice_of_own hown
      subst hwv
      have Gr := Gl.own
      have Gb := Gl.bel
      have hgl := own_len Gl.own
      have hwl := own_len hown
      subst hgl
      subst hwl
      have g5 := (cell_at (kept_at Gl.got hB) 0).trans (show #[Value.slice ga (k - g) gc][0]? = some (.slice ga (k - g) gc) from rfl)
      have hgr := ownsRow_keeps Gl.own (Keeps.of_below (e := 0) hB) (by decide)
      have BF' := below_up' BFl hB
      clear Gl HDl BFl hB Gr Gb hi48 hz48 hs48 hb48 HG0
      go_wp2_with fail
      go_loopw [75] (fun x w2 => ∃ (j nq : Nat), j ≤ k - g ∧ x = .int .i64 j ∧ w2 = wr.drewN nq) (fun x _ => (k - g) - (intOf x).toNat)
      case atStart => exact ⟨0, 0, Nat.zero_le _, rfl, rfl⟩
      case round =>
        obtain ⟨j, nq, hj, rfl, rfl⟩ := hrel
        by_cases hjl : j < k - g
        · obtain ⟨g1, rfl, hc1⟩ := own_addr hgr (by omega)
          obtain ⟨g2, rfl, hc2⟩ := own_addr hown (by omega)
          have hji : (j : Int) < ((k - g : Nat) : Int) := by omega
          have s1 := hc1 (j * 5 + 4) _ (recCells_at kb g hjl 4 _ (by omega) rfl)
          have s2 := hc2 (j * 5 + 4) _ (recCells_at kb g hjl 4 _ (by omega) rfl)
          have t1 := hc1 (j * 5 + 0) _ (recCells_at kb g hjl 0 _ (by omega) rfl)
          have t2 := hc2 (j * 5 + 0) _ (recCells_at kb g hjl 0 _ (by omega) rfl)
          rw [Nat.add_zero] at t1 t2
          generalize ((g + j : Nat) : Int) = sv at s1 s2
          generalize kb (g + j) = kv at t1 t2
          clear hc1 hc2 hgr hown
          go_wp2_with fail
          go_quiet ((go_at_call 16; exact quiet_add (cmp_same kv _)))
          go_wp2
          go_roundw
          case rel => exact ⟨j + 1, _, by omega, by go_num, rfl⟩
          case measure => simp [intOf]; omega
        · obtain rfl : j = k - g := by omega
          go_wp2
          go_ret
          exact ⟨rfl, below_drewN BF' _⟩

set_option maxRecDepth 100000 in
set_option maxHeartbeats 2000000 in
theorem all_flat_none (a0 a1 : Option Addr) (l0 c0 l1 c1 : Nat) (x : Int) (fl : Bool) (z0 : List Int) (w : World) (hn : l0 ≤ 1024) (hfl : fl = true ∨ l0 = 0) (i0 : IsRow .u8 w a0 l0 c0 z0) :
    Calls Yba.prog 5 #[.slice a0 l0 c0, .slice a1 l1 c1, .int .i64 x, .bool false, .bool fl] w fun e w' => e = .returned (.bool true) ∧ Below w.heap.size w w' := by
  have hbz := i0.bytes
  have HBZ : Hid (∀ j, 0 ≤ z0.getD j 0 ∧ z0.getD j 0 ≤ 255) := hbz
  clear hbz
  go_enter Yba.func5, Yba.ntmps5
  go_wp2_with fail
  refine (build_flat a0 a1 l0 c0 l1 c1 z0 fl w hn i0 hfl).mono ?_
  rintro e wy ⟨t, rg, kb, rfl, HL, HD, BY⟩
  clear i0
  obtain ⟨wz, hwz⟩ : ∃ wz, wz = wy := ⟨_, rfl⟩
  have BQ : Below wy.heap.size wy wz := by rw [hwz]; exact Below.refl _ _
  rw [← hwz]
  clear hwz
  have BZ := below_up' BY BQ
  have HDz := HD.below BQ
  go_wp2_with fail
  have Y := all_yields wz l0 rg kb (fun j hj => HDz.recs.at (Nat.le_refl _) hj)
  refine (leaf_all Y t 0 l0 l0 [] _ (allI_start wz kb) (by simp) (kept_at HL BQ) (Nat.zero_le _) (Nat.le_refl _) (by omega) hn).mono ?_
  rintro e w5 ⟨rfl, hI⟩
  obtain ⟨ga, gl, gc, G⟩ := gath_flat hI
  obtain ⟨g, hg0⟩ : ∃ g, g = 0 := ⟨_, rfl⟩
  have G : Gath wz w5 kb g l0 1 ga gl gc := by rw [hg0]; exact G
  have HC : ∀ j, Calls Yba.prog 15 #[.slice none 0 0, .bool fl, .pointer none] (w5.drewN j) fun e w' => e = .returned (.int .i64 1) ∧ ∃ m, w' = (w5.drewN j).drewN m := fun j => calls_nil fl none _
  obtain ⟨total, htt⟩ : ∃ total : Nat, total = 1 := ⟨_, rfl⟩
  rw [← htt] at G
  rw [show (1 : Int) = (total : Int) from by omega] at HC
  have htm : total ≤ 1024 := by omega
  have hal : allR ([] ++ [(0, l0)]) = true := rfl
  rw [hal]
  have HG0 : Hid (g = 0) := hg0
  clear htt hI HL hg0 hal HD
  have HD5 := HDz.below G.bel
  have BF := below_up' BZ G.bel
  have c5 := (cell_at G.cnt 0).trans (show #[Value.int .i64 (total : Int)][0]? = some (.int .i64 (total : Int)) from rfl)
  have g5 := (cell_at G.got 0).trans (show #[Value.slice ga gl gc][0]? = some (.slice ga gl gc) from rfl)
  clear Y HDz BQ BY BZ
  go_wp2_with fail
  go_quiet ((go_at_call 15; exact Calls.quiet_of (HC _)))
  clear HC
  go_wp2_with fail
  have Gl := G.drew nq
  have HDl : Held (w5.drewN nq) rg l0 kb z0 := ⟨HD5.recs, HD5.keys⟩
  have BFl := below_drewN BF nq
  clear G HD5 BF c5 g5 
  generalize w5.drewN nq = wl at Gl HDl BFl  ⊢
  obtain ⟨i48, hi48, hz48, hs48, hb48⟩ := info_parts info48
  go_loopw [18, 50] (fun wv x wr => ∃ k : Nat, k ≤ l0 ∧ x = .int .i64 k ∧ wr.ownsRow wl.heap.size 48 5 wv (k - g) (recCells kb g (k - g)) ∧ Below wl.heap.size wl wr) (fun _ x _ => l0 - (intOf x).toNat)
  case atStart => exact ⟨0, Nat.zero_le _, rfl, by rw [Nat.zero_sub]; exact ⟨rfl, .inl ⟨rfl, rfl⟩⟩, Below.refl _ _⟩
  case round =>
    obtain ⟨k, hk, rfl, hown, hB⟩ := hrel
    by_cases hlt : k < l0
    · obtain ⟨p0, p1, p2, p3, p4⟩ := (HDl.recs.at (Nat.le_refl _) hlt).below hB
      have hki : (k : Int) < (l0 : Int) := by omega
      have hsz := hB.size
      have hgk : g ≤ k := by have := HG0.out; omega
      go_wp2_with (at_builtin; refine wpList_append_own _ rfl (.tmp 63) (.tmp 65) 34 rfl wl.heap.size 48 i48 _ 5 88 Yba.underlying34 hi48 hz48 hs48 hb48 rfl (by decide) u18 (k - g) (recCells kb g (k - g)) rfl ?_ ⟨wr.heap.size + 1, 0, none⟩ 1 1 [.pointer (some ⟨kb k, 0, none⟩), .slice none 0 0, .slice none 0 0, .slice none 0 0, .int .u64 (k : Int)] rfl rfl ?_ (rec_ones _ _) ?_ ?_ ?_ ?_; exact hown.alloc _ |>.alloc _; exact rec_news _ _ (by simp) _ _; (unfold maxLen; omega); omega; (simp; omega); intro v' w1 ho hg _)
      have ho' : w1.ownsRow wl.heap.size 48 5 v' (k + 1 - g) (recCells kb g (k + 1 - g)) := by
        rw [show k + 1 - g = k - g + 1 from by omega, recCells, show g + (k - g) = k from by omega]
        exact ho
      have hB' : Below wl.heap.size wl w1 := ((hB.alloc hsz _).alloc (by simp; omega) _).grown hg (by simp; omega) (own_base hown)
      clear ho hg
      go_wp2
      go_roundw
      case rel => exact ⟨k + 1, by omega, by go_num, ho', hB'⟩
      case measure => simp [intOf]; omega
    · obtain rfl : k = l0 := by omega
      obtain ⟨wa, wn, wc, hwv⟩ := slice_of_own hown
      subst hwv
      have Gr := Gl.own
      have Gb := Gl.bel
      have hgl := own_len Gl.own
      have hwl := own_len hown
      subst hgl
      subst hwl
      have g5 := (cell_at (kept_at Gl.got hB) 0).trans (show #[Value.slice ga (k - g) gc][0]? = some (.slice ga (k - g) gc) from rfl)
      have hgr := ownsRow_keeps Gl.own (Keeps.of_below (e := 0) hB) (by decide)
      have BF' := below_up' BFl hB
      clear Gl HDl BFl hB Gr Gb hi48 hz48 hs48 hb48 HG0
      go_wp2_with fail
      go_loopw [75] (fun x w2 => ∃ (j nq : Nat), j ≤ k - g ∧ x = .int .i64 j ∧ w2 = wr.drewN nq) (fun x _ => (k - g) - (intOf x).toNat)
      case atStart => exact ⟨0, 0, Nat.zero_le _, rfl, rfl⟩
      case round =>
        obtain ⟨j, nq, hj, rfl, rfl⟩ := hrel
        by_cases hjl : j < k - g
        · obtain ⟨g1, rfl, hc1⟩ := own_addr hgr (by omega)
          obtain ⟨g2, rfl, hc2⟩ := own_addr hown (by omega)
          have hji : (j : Int) < ((k - g : Nat) : Int) := by omega
          have s1 := hc1 (j * 5 + 4) _ (recCells_at kb g hjl 4 _ (by omega) rfl)
          have s2 := hc2 (j * 5 + 4) _ (recCells_at kb g hjl 4 _ (by omega) rfl)
          have t1 := hc1 (j * 5 + 0) _ (recCells_at kb g hjl 0 _ (by omega) rfl)
          have t2 := hc2 (j * 5 + 0) _ (recCells_at kb g hjl 0 _ (by omega) rfl)
          rw [Nat.add_zero] at t1 t2
          generalize ((g + j : Nat) : Int) = sv at s1 s2
          generalize kb (g + j) = kv at t1 t2
          clear hc1 hc2 hgr hown
          go_wp2_with fail
          go_quiet ((go_at_call 16; exact quiet_add (cmp_same kv _)))
          go_wp2
          go_roundw
          case rel => exact ⟨j + 1, _, by omega, by go_num, rfl⟩
          case measure => simp [intOf]; omega
        · obtain rfl : j = k - g := by omega
          go_wp2
          go_ret
          exact ⟨rfl, below_drewN BF' _⟩

set_option maxRecDepth 100000 in
set_option maxHeartbeats 2000000 in
theorem all_tree_some (a0 a1 : Option Addr) (l0 c0 l1 c1 : Nat) (x : Int) (z0 z1 : List Int) (w : World) (hn : l0 ≤ 1024) (hpos : 0 < l0) (i0 : IsRow .u8 w a0 l0 c0 z0) (i1 : IsRow .u8 w a1 l1 c1 z1) (x0 : -9223372036854775808 ≤ x) (x1 : x ≤ 9223372036854775807) :
    Calls Yba.prog 5 #[.slice a0 l0 c0, .slice a1 l1 c1, .int .i64 x, .bool true, .bool false] w fun e w' => e = .returned (.bool true) ∧ Below w.heap.size w w' := by
  have hbz := i0.bytes
  have HBZ : Hid (∀ j, 0 ≤ z0.getD j 0 ∧ z0.getD j 0 ≤ 255) := hbz
  clear hbz
  go_enter Yba.func5, Yba.ntmps5
  go_wp2_with fail
  refine (build_tree a0 a1 l0 c0 l1 c1 z0 z1 w hn hpos i0 i1).mono ?_
  rintro e wy ⟨t, kg, kc, fg, fc, m, kb, nd, P, rfl, T⟩
  obtain ⟨rg, hrg⟩ : ∃ rg, rg = w.heap.size := ⟨_, rfl⟩
  rw [← hrg] at T ⊢
  have hpm := T.root.pos
  have hfm := T.root.few
  have HD := T.held
  have BY := T.bel
  clear i0 i1 hrg
  go_wp2_with fail
  refine (newInt_any x _ x0 x1).mono ?_
  rintro e wz ⟨q, rfl, _, hq, BQ⟩
  have BZ := below_up' BY BQ
  have HDz := HD.below BQ
  go_wp2_with fail
  have Y := all_yields wz l0 rg kb (fun j hj => HDz.recs.at (Nat.le_refl _) hj)
  obtain ⟨r, hr⟩ := lowB_exists (fun j => cum z0 (P j + 1)) x m (T.rise HBZ.out)
  have hrm := hr.1
  obtain ⟨s, hs⟩ := lowB_exists (fun j => cum z0 (P (r - 1) + j + 1)) x (P (r - 1 + 1) - P (r - 1)) (fun a b h1 _ => cum_mono HBZ.out _ _ (by omega))
  refine (root_some Y t kg m kc q r s kb nd P (fun j => (j : Int)) (fun j => cum z0 (j + 1)) x _ (allI_start wz kb) (T.root.below BQ) (fun a b h1 _ => cum_mono HBZ.out _ _ (by omega)) (fun j hj => HDz.recs.at (Nat.le_refl _) hj) (fun j hj => HDz.keys j hj) hq hr hs).mono ?_
  rintro e w5 ⟨b, rfl, hE⟩
  have hlt := T.root.lt (r - 1) (by omega)
  obtain ⟨rfl, ga, gl, gc, G⟩ := gath_tree hE (by omega) (by have := hs.1; omega) T.root.lt T.last
  have LB := lowB_join (X := fun j => cum z0 (j + 1)) (y := x) (fun a b h1 _ => cum_mono HBZ.out _ _ (by omega)) T.root.lt T.zero T.last hpm hr hs
  obtain ⟨g, hg0⟩ : ∃ g, g = P (r - 1) + s := ⟨_, rfl⟩
  rw [← hg0] at G LB
  obtain ⟨total, htt⟩ : ∃ total, total = m - (r - 1) := ⟨_, rfl⟩
  rw [← htt] at G
  have htm : total ≤ 1024 := by omega
  have B5 := below_up' BQ G.bel
  have HC : ∀ j, Calls Yba.prog 15 #[.slice (some ⟨fg, 0, none⟩) m fc, .bool false, .pointer (some ⟨q, 0, none⟩)] (w5.drewN j) fun e w' => e = .returned (.int .i64 total) ∧ ∃ m, w' = (w5.drewN j).drewN m := fun j => by
    rw [htt]
    exact calls_some false fg m fc q r (fun j => kb (P j)) (fun j => cum z0 (P j + 1)) x _ hfm hr (fun j hj => (B5.cell (p := ⟨fg, j, none⟩) (World.block_lt_of_cell? _ _ (T.fsts j hj))).trans (T.fsts j hj)) (fun j hj => (T.held.keys (P j) (lt_n T hj)).below (below_drewN B5 _)) (hq.below (below_drewN G.bel _))
  have HLB : Hid (LowB (fun j => cum z0 (j + 1)) l0 x g) := LB
  have hq5 := hq.below G.bel
  clear htt hE T hg0 HD hr hs hrm hlt LB B5
  have HD5 := HDz.below G.bel
  have BF := below_up' BZ G.bel
  have c5 := (cell_at G.cnt 0).trans (show #[Value.int .i64 (total : Int)][0]? = some (.int .i64 (total : Int)) from rfl)
  have g5 := (cell_at G.got 0).trans (show #[Value.slice ga gl gc][0]? = some (.slice ga gl gc) from rfl)
  clear Y HDz BQ BY BZ
  go_wp2_with fail
  go_quiet ((go_at_call 15; exact Calls.quiet_of (HC _)))
  clear HC
  go_wp2_with fail
  have Gl := G.drew nq
  have HDl : Held (w5.drewN nq) rg l0 kb z0 := ⟨HD5.recs, HD5.keys⟩
  have BFl := below_drewN BF nq
  have hql : BigIs (w5.drewN nq) q x := hq5
  clear G HD5 BF c5 g5 hq5
  generalize w5.drewN nq = wl at Gl HDl BFl hql ⊢
  obtain ⟨i48, hi48, hz48, hs48, hb48⟩ := info_parts info48
  go_loopw [18, 50] (fun wv x wr => ∃ k : Nat, k ≤ l0 ∧ x = .int .i64 k ∧ wr.ownsRow wl.heap.size 48 5 wv (k - g) (recCells kb g (k - g)) ∧ Below wl.heap.size wl wr) (fun _ x _ => l0 - (intOf x).toNat)
  case atStart => exact ⟨0, Nat.zero_le _, rfl, by rw [Nat.zero_sub]; exact ⟨rfl, .inl ⟨rfl, rfl⟩⟩, Below.refl _ _⟩
  case round =>
    obtain ⟨k, hk, rfl, hown, hB⟩ := hrel
    by_cases hlt : k < l0
    · obtain ⟨p0, p1, p2, p3, p4⟩ := (HDl.recs.at (Nat.le_refl _) hlt).below hB
      have hki : (k : Int) < (l0 : Int) := by omega
      have hsz := hB.size
      have K1 := ((HDl.keys k hlt).below hB).below (below_one wr (.cells #[.pointer (some ⟨kb k, 0, none⟩), .slice none 0 0, .slice none 0 0, .slice none 0 0, .int .u64 (k : Int)] 48))
      have K2 := (hql.below hB).below (below_one wr (.cells #[.pointer (some ⟨kb k, 0, none⟩), .slice none 0 0, .slice none 0 0, .slice none 0 0, .int .u64 (k : Int)] 48))
      go_wp2_with fail
      refine (cmp_any (kb k) q (cum z0 (k + 1)) x _ K1 K2).mono ?_
      rintro e w1 ⟨rfl, mq, hw1⟩
      have b0 : w1.heap[wr.heap.size]? = some (.cells #[.pointer (some ⟨kb k, 0, none⟩), .slice none 0 0, .slice none 0 0, .slice none 0 0, .int .u64 (k : Int)] 48) := by rw [hw1]; exact blk_alloc_new _ _
      have BW1 : Below wr.heap.size wr w1 := by rw [hw1]; exact below_drewN (below_one _ _) _
      have hown1 : w1.ownsRow wl.heap.size 48 5 u18 (k - g) (recCells kb g (k - g)) := by rw [hw1]; exact hown.alloc _
      clear K1 K2 hw1 p0 p1 p2 p3 p4
      have p0 := (cell_at b0 0).trans (show #[Value.pointer (some ⟨kb k, 0, none⟩), .slice none 0 0, .slice none 0 0, .slice none 0 0, .int .u64 (k : Int)][0]? = some (.pointer (some ⟨kb k, 0, none⟩)) from rfl)
      have p1 := (cell_at b0 1).trans (show #[Value.pointer (some ⟨kb k, 0, none⟩), .slice none 0 0, .slice none 0 0, .slice none 0 0, .int .u64 (k : Int)][1]? = some (.slice none 0 0) from rfl)
      have p2 := (cell_at b0 2).trans (show #[Value.pointer (some ⟨kb k, 0, none⟩), .slice none 0 0, .slice none 0 0, .slice none 0 0, .int .u64 (k : Int)][2]? = some (.slice none 0 0) from rfl)
      have p3 := (cell_at b0 3).trans (show #[Value.pointer (some ⟨kb k, 0, none⟩), .slice none 0 0, .slice none 0 0, .slice none 0 0, .int .u64 (k : Int)][3]? = some (.slice none 0 0) from rfl)
      have p4 := (cell_at b0 4).trans (show #[Value.pointer (some ⟨kb k, 0, none⟩), .slice none 0 0, .slice none 0 0, .slice none 0 0, .int .u64 (k : Int)][4]? = some (.int .u64 (k : Int)) from rfl)
      have hsz1 := BW1.size
      clear b0
      by_cases hgk : k < g
      · have hx := HLB.out.2.1 k hgk
        rw [cmpZ_lt hx]
        clear hx
        have hB' : Below wl.heap.size wl w1 := below_up' hB BW1
        go_wp2
        go_roundw
        case rel => exact ⟨k + 1, by omega, by go_num, by rw [show k + 1 - g = 0 from by omega]; rw [show k - g = 0 from by omega] at hown1; exact hown1, hB'⟩
        case measure => simp [intOf]; omega
      · have hx := HLB.out.2.2 k (by omega) hlt
        have hge := cmpZ_ge (x := cum z0 (k + 1)) (y := x) (by simp only at hx; omega)
        generalize cmpZ (cum z0 (k + 1)) x = cv at hge ⊢
        clear hx
        go_wp2_with (at_builtin; refine wpList_append_own _ rfl (.tmp 63) (.tmp 65) 34 rfl wl.heap.size 48 i48 _ 5 88 Yba.underlying34 hi48 hz48 hs48 hb48 rfl (by decide) u18 (k - g) (recCells kb g (k - g)) rfl ?_ ⟨w1.heap.size, 0, none⟩ 1 1 [.pointer (some ⟨kb k, 0, none⟩), .slice none 0 0, .slice none 0 0, .slice none 0 0, .int .u64 (k : Int)] rfl rfl ?_ (rec_ones _ _) ?_ ?_ ?_ ?_; exact hown1.alloc _; exact rec_news _ _ (by simp) _ _; (unfold maxLen; omega); omega; (simp; omega); intro v' w4 ho hg _)
        have ho' : w4.ownsRow wl.heap.size 48 5 v' (k + 1 - g) (recCells kb g (k + 1 - g)) := by
          rw [show k + 1 - g = k - g + 1 from by omega, recCells, show g + (k - g) = k from by omega]
          exact ho
        have hB' : Below wl.heap.size wl w4 := (((below_up' hB BW1).alloc (by omega) _)).grown hg (by simp; omega) (own_base hown1)
        clear ho hg
        go_wp2
        go_roundw
        case rel => exact ⟨k + 1, by omega, by go_num, ho', hB'⟩
        case measure => simp [intOf]; omega
    · obtain rfl : k = l0 := by omega
      obtain ⟨wa, wn, wc, hwv⟩ := slice_of_own hown
      subst hwv
      have Gr := Gl.own
      have Gb := Gl.bel
      have hgl := own_len Gl.own
      have hwl := own_len hown
      subst hgl
      subst hwl
      have g5 := (cell_at (kept_at Gl.got hB) 0).trans (show #[Value.slice ga (k - g) gc][0]? = some (.slice ga (k - g) gc) from rfl)
      have hgr := ownsRow_keeps Gl.own (Keeps.of_below (e := 0) hB) (by decide)
      have BF' := below_up' BFl hB
      clear Gl HDl BFl hB Gr Gb hi48 hz48 hs48 hb48 hql HLB
      go_wp2_with fail
      go_loopw [75] (fun x w2 => ∃ (j nq : Nat), j ≤ k - g ∧ x = .int .i64 j ∧ w2 = wr.drewN nq) (fun x _ => (k - g) - (intOf x).toNat)
      case atStart => exact ⟨0, 0, Nat.zero_le _, rfl, rfl⟩
      case round =>
        obtain ⟨j, nq, hj, rfl, rfl⟩ := hrel
        by_cases hjl : j < k - g
        · obtain ⟨g1, rfl, hc1⟩ := own_addr hgr (by omega)
          obtain ⟨g2, rfl, hc2⟩ := own_addr hown (by omega)
          have hji : (j : Int) < ((k - g : Nat) : Int) := by omega
          have s1 := hc1 (j * 5 + 4) _ (recCells_at kb g hjl 4 _ (by omega) rfl)
          have s2 := hc2 (j * 5 + 4) _ (recCells_at kb g hjl 4 _ (by omega) rfl)
          have t1 := hc1 (j * 5 + 0) _ (recCells_at kb g hjl 0 _ (by omega) rfl)
          have t2 := hc2 (j * 5 + 0) _ (recCells_at kb g hjl 0 _ (by omega) rfl)
          rw [Nat.add_zero] at t1 t2
          generalize ((g + j : Nat) : Int) = sv at s1 s2
          generalize kb (g + j) = kv at t1 t2
          clear hc1 hc2 hgr hown
          go_wp2_with fail
          go_quiet ((go_at_call 16; exact quiet_add (cmp_same kv _)))
          go_wp2
          go_roundw
          case rel => exact ⟨j + 1, _, by omega, by go_num, rfl⟩
          case measure => simp [intOf]; omega
        · obtain rfl : j = k - g := by omega
          go_wp2
          go_ret
          exact ⟨rfl, below_drewN BF' _⟩

set_option maxRecDepth 100000 in
set_option maxHeartbeats 2000000 in
theorem all_flat_some (a0 a1 : Option Addr) (l0 c0 l1 c1 : Nat) (x : Int) (fl : Bool) (z0 : List Int) (w : World) (hn : l0 ≤ 1024) (hfl : fl = true ∨ l0 = 0) (i0 : IsRow .u8 w a0 l0 c0 z0) (x0 : -9223372036854775808 ≤ x) (x1 : x ≤ 9223372036854775807) :
    Calls Yba.prog 5 #[.slice a0 l0 c0, .slice a1 l1 c1, .int .i64 x, .bool true, .bool fl] w fun e w' => e = .returned (.bool true) ∧ Below w.heap.size w w' := by
  have hbz := i0.bytes
  have HBZ : Hid (∀ j, 0 ≤ z0.getD j 0 ∧ z0.getD j 0 ≤ 255) := hbz
  clear hbz
  go_enter Yba.func5, Yba.ntmps5
  go_wp2_with fail
  refine (build_flat a0 a1 l0 c0 l1 c1 z0 fl w hn i0 hfl).mono ?_
  rintro e wy ⟨t, rg, kb, rfl, HL, HD, BY⟩
  clear i0
  go_wp2_with fail
  refine (newInt_any x _ x0 x1).mono ?_
  rintro e wz ⟨q, rfl, _, hq, BQ⟩
  have BZ := below_up' BY BQ
  have HDz := HD.below BQ
  go_wp2_with fail
  have Y := all_yields wz l0 rg kb (fun j hj => HDz.recs.at (Nat.le_refl _) hj)
  obtain ⟨r, hr⟩ := lowB_exists (fun j => cum z0 (0 + j + 1)) x (l0 - 0) (fun a b h1 _ => cum_mono HBZ.out _ _ (by omega))
  refine (leaf_some Y t 0 l0 l0 q r kb (fun j => (j : Int)) (fun j => cum z0 (j + 1)) x [] _ (allI_start wz kb) (by simp) (kept_at HL BQ) (Nat.zero_le _) (Nat.le_refl _) (by omega) hn (fun a b h1 _ => cum_mono HBZ.out _ _ (by omega)) (fun j hj => HDz.recs.at (Nat.le_refl _) hj) (fun j hj => HDz.keys j hj) hq hr).mono ?_
  rintro e w5 ⟨rfl, hI⟩
  obtain ⟨ga, gl, gc, G⟩ := gath_flat hI
  have hr' : LowB (fun j => cum z0 (j + 1)) l0 x r := by simpa using hr
  obtain ⟨g, hg0⟩ : ∃ g, g = r := ⟨_, rfl⟩
  have hal : allR ([] ++ [(0 + r, l0)]) = true := rfl
  rw [hal]
  rw [Nat.zero_add, ← hg0] at G
  rw [← hg0] at hr'
  have HC : ∀ j, Calls Yba.prog 15 #[.slice none 0 0, .bool fl, .pointer (some ⟨q, 0, none⟩)] (w5.drewN j) fun e w' => e = .returned (.int .i64 1) ∧ ∃ m, w' = (w5.drewN j).drewN m := fun j => calls_nil fl _ _
  obtain ⟨total, htt⟩ : ∃ total : Nat, total = 1 := ⟨_, rfl⟩
  rw [← htt] at G
  rw [show (1 : Int) = (total : Int) from by omega] at HC
  have htm : total ≤ 1024 := by omega
  have HLB : Hid (LowB (fun j => cum z0 (j + 1)) l0 x g) := hr'
  have hq5 := hq.below G.bel
  clear htt hI HL hg0 hal hr hr' HD
  have HD5 := HDz.below G.bel
  have BF := below_up' BZ G.bel
  have c5 := (cell_at G.cnt 0).trans (show #[Value.int .i64 (total : Int)][0]? = some (.int .i64 (total : Int)) from rfl)
  have g5 := (cell_at G.got 0).trans (show #[Value.slice ga gl gc][0]? = some (.slice ga gl gc) from rfl)
  clear Y HDz BQ BY BZ
  go_wp2_with fail
  go_quiet ((go_at_call 15; exact Calls.quiet_of (HC _)))
  clear HC
  go_wp2_with fail
  have Gl := G.drew nq
  have HDl : Held (w5.drewN nq) rg l0 kb z0 := ⟨HD5.recs, HD5.keys⟩
  have BFl := below_drewN BF nq
  have hql : BigIs (w5.drewN nq) q x := hq5
  clear G HD5 BF c5 g5 hq5
  generalize w5.drewN nq = wl at Gl HDl BFl hql ⊢
  obtain ⟨i48, hi48, hz48, hs48, hb48⟩ := info_parts info48
  go_loopw [18, 50] (fun wv x wr => ∃ k : Nat, k ≤ l0 ∧ x = .int .i64 k ∧ wr.ownsRow wl.heap.size 48 5 wv (k - g) (recCells kb g (k - g)) ∧ Below wl.heap.size wl wr) (fun _ x _ => l0 - (intOf x).toNat)
  case atStart => exact ⟨0, Nat.zero_le _, rfl, by rw [Nat.zero_sub]; exact ⟨rfl, .inl ⟨rfl, rfl⟩⟩, Below.refl _ _⟩
  case round =>
    obtain ⟨k, hk, rfl, hown, hB⟩ := hrel
    by_cases hlt : k < l0
    · obtain ⟨p0, p1, p2, p3, p4⟩ := (HDl.recs.at (Nat.le_refl _) hlt).below hB
      have hki : (k : Int) < (l0 : Int) := by omega
      have hsz := hB.size
      have K1 := ((HDl.keys k hlt).below hB).below (below_one wr (.cells #[.pointer (some ⟨kb k, 0, none⟩), .slice none 0 0, .slice none 0 0, .slice none 0 0, .int .u64 (k : Int)] 48))
      have K2 := (hql.below hB).below (below_one wr (.cells #[.pointer (some ⟨kb k, 0, none⟩), .slice none 0 0, .slice none 0 0, .slice none 0 0, .int .u64 (k : Int)] 48))
      go_wp2_with fail
      refine (cmp_any (kb k) q (cum z0 (k + 1)) x _ K1 K2).mono ?_
      rintro e w1 ⟨rfl, mq, hw1⟩
      have b0 : w1.heap[wr.heap.size]? = some (.cells #[.pointer (some ⟨kb k, 0, none⟩), .slice none 0 0, .slice none 0 0, .slice none 0 0, .int .u64 (k : Int)] 48) := by rw [hw1]; exact blk_alloc_new _ _
      have BW1 : Below wr.heap.size wr w1 := by rw [hw1]; exact below_drewN (below_one _ _) _
      have hown1 : w1.ownsRow wl.heap.size 48 5 u18 (k - g) (recCells kb g (k - g)) := by rw [hw1]; exact hown.alloc _
      clear K1 K2 hw1 p0 p1 p2 p3 p4
      have p0 := (cell_at b0 0).trans (show #[Value.pointer (some ⟨kb k, 0, none⟩), .slice none 0 0, .slice none 0 0, .slice none 0 0, .int .u64 (k : Int)][0]? = some (.pointer (some ⟨kb k, 0, none⟩)) from rfl)
      have p1 := (cell_at b0 1).trans (show #[Value.pointer (some ⟨kb k, 0, none⟩), .slice none 0 0, .slice none 0 0, .slice none 0 0, .int .u64 (k : Int)][1]? = some (.slice none 0 0) from rfl)
      have p2 := (cell_at b0 2).trans (show #[Value.pointer (some ⟨kb k, 0, none⟩), .slice none 0 0, .slice none 0 0, .slice none 0 0, .int .u64 (k : Int)][2]? = some (.slice none 0 0) from rfl)
      have p3 := (cell_at b0 3).trans (show #[Value.pointer (some ⟨kb k, 0, none⟩), .slice none 0 0, .slice none 0 0, .slice none 0 0, .int .u64 (k : Int)][3]? = some (.slice none 0 0) from rfl)
      have p4 := (cell_at b0 4).trans (show #[Value.pointer (some ⟨kb k, 0, none⟩), .slice none 0 0, .slice none 0 0, .slice none 0 0, .int .u64 (k : Int)][4]? = some (.int .u64 (k : Int)) from rfl)
      have hsz1 := BW1.size
      clear b0
      by_cases hgk : k < g
      · have hx := HLB.out.2.1 k hgk
        rw [cmpZ_lt hx]
        clear hx
        have hB' : Below wl.heap.size wl w1 := below_up' hB BW1
        go_wp2
        go_roundw
        case rel => exact ⟨k + 1, by omega, by go_num, by rw [show k + 1 - g = 0 from by omega]; rw [show k - g = 0 from by omega] at hown1; exact hown1, hB'⟩
        case measure => simp [intOf]; omega
      · have hx := HLB.out.2.2 k (by omega) hlt
        have hge := cmpZ_ge (x := cum z0 (k + 1)) (y := x) (by simp only at hx; omega)
        generalize cmpZ (cum z0 (k + 1)) x = cv at hge ⊢
        clear hx
        go_wp2_with (at_builtin; refine wpList_append_own _ rfl (.tmp 63) (.tmp 65) 34 rfl wl.heap.size 48 i48 _ 5 88 Yba.underlying34 hi48 hz48 hs48 hb48 rfl (by decide) u18 (k - g) (recCells kb g (k - g)) rfl ?_ ⟨w1.heap.size, 0, none⟩ 1 1 [.pointer (some ⟨kb k, 0, none⟩), .slice none 0 0, .slice none 0 0, .slice none 0 0, .int .u64 (k : Int)] rfl rfl ?_ (rec_ones _ _) ?_ ?_ ?_ ?_; exact hown1.alloc _; exact rec_news _ _ (by simp) _ _; (unfold maxLen; omega); omega; (simp; omega); intro v' w4 ho hg _)
        have ho' : w4.ownsRow wl.heap.size 48 5 v' (k + 1 - g) (recCells kb g (k + 1 - g)) := by
          rw [show k + 1 - g = k - g + 1 from by omega, recCells, show g + (k - g) = k from by omega]
          exact ho
        have hB' : Below wl.heap.size wl w4 := (((below_up' hB BW1).alloc (by omega) _)).grown hg (by simp; omega) (own_base hown1)
        clear ho hg
        go_wp2
        go_roundw
        case rel => exact ⟨k + 1, by omega, by go_num, ho', hB'⟩
        case measure => simp [intOf]; omega
    · obtain rfl : k = l0 := by omega
      obtain ⟨wa, wn, wc, hwv⟩ := slice_of_own hown
      subst hwv
      have Gr := Gl.own
      have Gb := Gl.bel
      have hgl := own_len Gl.own
      have hwl := own_len hown
      subst hgl
      subst hwl
      have g5 := (cell_at (kept_at Gl.got hB) 0).trans (show #[Value.slice ga (k - g) gc][0]? = some (.slice ga (k - g) gc) from rfl)
      have hgr := ownsRow_keeps Gl.own (Keeps.of_below (e := 0) hB) (by decide)
      have BF' := below_up' BFl hB
      clear Gl HDl BFl hB Gr Gb hi48 hz48 hs48 hb48 hql HLB
      go_wp2_with fail
      go_loopw [75] (fun x w2 => ∃ (j nq : Nat), j ≤ k - g ∧ x = .int .i64 j ∧ w2 = wr.drewN nq) (fun x _ => (k - g) - (intOf x).toNat)
      case atStart => exact ⟨0, 0, Nat.zero_le _, rfl, rfl⟩
      case round =>
        obtain ⟨j, nq, hj, rfl, rfl⟩ := hrel
        by_cases hjl : j < k - g
        · obtain ⟨g1, rfl, hc1⟩ := own_addr hgr (by omega)
          obtain ⟨g2, rfl, hc2⟩ := own_addr hown (by omega)
          have hji : (j : Int) < ((k - g : Nat) : Int) := by omega
          have s1 := hc1 (j * 5 + 4) _ (recCells_at kb g hjl 4 _ (by omega) rfl)
          have s2 := hc2 (j * 5 + 4) _ (recCells_at kb g hjl 4 _ (by omega) rfl)
          have t1 := hc1 (j * 5 + 0) _ (recCells_at kb g hjl 0 _ (by omega) rfl)
          have t2 := hc2 (j * 5 + 0) _ (recCells_at kb g hjl 0 _ (by omega) rfl)
          rw [Nat.add_zero] at t1 t2
          generalize ((g + j : Nat) : Int) = sv at s1 s2
          generalize kb (g + j) = kv at t1 t2
          clear hc1 hc2 hgr hown
          go_wp2_with fail
          go_quiet ((go_at_call 16; exact quiet_add (cmp_same kv _)))
          go_wp2
          go_roundw
          case rel => exact ⟨j + 1, _, by omega, by go_num, rfl⟩
          case measure => simp [intOf]; omega
        · obtain rfl : j = k - g := by omega
          go_wp2
          go_ret
          exact ⟨rfl, below_drewN BF' _⟩

end Go.Proofs.Ybulkexa
