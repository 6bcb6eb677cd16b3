/- THE WALK of 'node.LawS0286CStop'. -/
import Derived.Test.YbulkexaTree
namespace Go.Proofs.Ybulkexa
open Go.RowKit Go.Deep

theorem RootAt.below {w w' : World} {t kg m kc n rg : Nat} {kb nd P : Nat → Nat} (h : RootAt w t kg m kc n rg kb nd P) (hb : Below w.heap.size w w') : RootAt w' t kg m kc n rg kb nd P :=
  ⟨kept_at h.node hb, h.pos, h.room, h.cap, h.few, fun j hj => (h.kid j hj).below hb, fun j hj => kept_at (h.leaf j hj) hb, h.lt, h.le, h.small⟩
theorem Held.below {w w' : World} {rg n : Nat} {kb : Nat → Nat} {zs : List Int} (h : Held w rg n kb zs) (hb : Below w.heap.size w w') : Held w' rg n kb zs :=
  h.keeps (Keeps.of_below (e := 0) hb) (by decide) (by decide) (by decide)

/-! ### The yield that counts and stops -/
def stopI (W0 : World) (L : List (Nat × Nat)) (W : World) : Prop := Below W0.heap.size W0 W ∧ W.heap[W0.heap.size]? = some (.cells #[.int .i64 (L.length : Int)] 3 (0, 0))
def stopR (K : Int) (L : List (Nat × Nat)) : Bool := decide ((L.length : Int) < K)

set_option maxRecDepth 100000 in
set_option maxHeartbeats 400000 in
theorem stop_yields (W0 : World) (n rg kq : Nat) (K : Int) (hk : W0.cell? ⟨kq, 0, none⟩ = some (.int .i64 K)) :
    Yields W0 n rg 17 (.pointer (some ⟨W0.heap.size, 0, none⟩)) (.pointer (some ⟨kq, 0, none⟩)) (stopI W0) (stopR K) := by
  refine ⟨enters17, fun _ _ h => h.1, fun L W W' h hb => ⟨below_up' h.1 hb, kept_at h.2 hb⟩, ?_⟩
  intro L lo hi ao c W hI hlen _ _ _ _ _
  have kl : kq < W0.heap.size := World.block_lt_of_cell? _ _ hk
  have k0 := (hI.1.cell (p := ⟨kq, 0, none⟩) kl).trans hk
  have c0 := cell_at hI.2 0
  have f0 := free_at hI.2 0
  simp at c0
  have hne : ¬ (W0.heap.size = kq) := by omega
  have HB := hI.1
  have HH : Hid (W.heap[W0.heap.size]? = some (.cells #[.int .i64 (L.length : Int)] 3 (0, 0))) := hI.2
  have HL : Hid (((L ++ [(lo, hi)]).length : Int) = (L.length : Int) + 1) := by show _ = _; simp
  have hl1 : (L.length : Int) ≤ 1024 := by omega
  have hl0 : (0 : Int) ≤ (L.length : Int) := by omega
  generalize (L.length : Int) = l at c0 HH HL hl1 hl0
  clear hI hk
  go_enter Yba.func17, Yba.ntmps17
  go_wp2
  go_ret
  refine ⟨?_, HB.setCell (p := ⟨W0.heap.size, 0, none⟩) (Nat.le_refl _) _, ?_⟩
  · unfold stopR; rw [HL.out]; rfl
  · rw [HL.out]; exact one_setCell HH.out

theorem stopI_start (W0 : World) : stopI W0 [] (W0.alloc (.cells #[.int .i64 0] 3)) := ⟨(Below.refl _ _).alloc (Nat.le_refl _) _, blk_alloc_new _ _⟩

/-- What the count and the answer must be: the children's ways. -/
theorem stop_ends {W0 W : World} {K : Int} {s : Nat} {P : Nat → Nat} {i m : Nat} {b : Bool} (h : Ends (stopR K) (stopI W0) s P i m b W) (hi : i < m) (hK : 1 ≤ K) :
    ∃ k : Nat, stopI W0 (strs s P i k) W ∧ k ≤ m - i ∧ ((k : Int) = if ((m - i : Nat) : Int) < K then ((m - i : Nat) : Int) else K) ∧ b = decide (((m - i : Nat) : Int) < K) := by
  obtain ⟨k, hk, hI, ⟨rfl, rfl, h⟩ | ⟨rfl, h1, h2, h3⟩⟩ := h
  · have := h (m - i) (by omega) (Nat.le_refl _)
    unfold stopR at this
    rw [strs_length] at this
    have h' : ((m - i : Nat) : Int) < K := of_decide_eq_true this
    exact ⟨m - i, hI, Nat.le_refl _, by rw [if_pos h'], by rw [decide_eq_true h']⟩
  · unfold stopR at h2 h3
    rw [strs_length] at h2
    have h2' : ¬ (k : Int) < K := of_decide_eq_false h2
    have hle : (k : Int) ≤ K := by
      by_cases e : k = 1
      · subst e; omega
      · have := h3 (k - 1) (by omega) (by omega)
        rw [strs_length] at this
        have := of_decide_eq_true this
        omega
    have h' : ¬ ((m - i : Nat) : Int) < K := by omega
    exact ⟨k, hI, hk, by rw [if_neg h']; omega, by rw [decide_eq_false h']⟩

set_option maxRecDepth 100000 in
set_option maxHeartbeats 400000 in
theorem stop_long (a0 a1 : Option Addr) (l0 c0 l1 c1 : Nat) (x : Int) (hf fl : Bool) (st : Int) (w : World) (h : 1024 < l0) (_hm : l0 ≤ 9223372036854775807) :
    Calls Yba.prog 6 #[.slice a0 l0 c0, .slice a1 l1 c1, .int .i64 x, .bool hf, .bool fl, .int .u8 st] w fun e w' => e = .returned (.bool true) ∧ Below w.heap.size w w' := by
  go_enter Yba.func6, Yba.ntmps6
  go_wp2
  go_ret
  exact ⟨rfl, Below.refl _ _⟩

set_option maxRecDepth 100000 in
set_option maxHeartbeats 1000000 in
theorem stop_tree_none (a0 a1 : Option Addr) (l0 c0 l1 c1 : Nat) (x : Int) (st : Int) (z0 z1 : List Int) (w : World) (hn : l0 ≤ 1024) (hpos : 0 < l0) (i0 : IsRow .u8 w a0 l0 c0 z0) (i1 : IsRow .u8 w a1 l1 c1 z1) (s0 : 0 ≤ st) (s1 : st ≤ 255) :
    Calls Yba.prog 6 #[.slice a0 l0 c0, .slice a1 l1 c1, .int .i64 x, .bool false, .bool false, .int .u8 st] w fun e w' => e = .returned (.bool true) ∧ Below w.heap.size w w' := by
  go_enter Yba.func6, Yba.ntmps6
  go_wp2_with fail
  refine (build_tree a0 a1 l0 c0 l1 c1 z0 z1 w hn hpos i0 i1).mono ?_
  rintro e wz ⟨t, kg, kc, fg, fc, m, kb, nd, P, rfl, T⟩
  obtain ⟨rg, hrg⟩ : ∃ rg, rg = w.heap.size := ⟨_, rfl⟩
  rw [← hrg] at T
  have BZ := T.bel
  have hpm := T.root.pos
  have hfm := T.root.few
  clear i0 i1 hrg
  go_wp2_with fail
  have hK : 1 ≤ st % 4 + 1 ∧ st % 4 + 1 ≤ 4 := by omega
  generalize st % 4 + 1 = K at hK ⊢
  obtain ⟨hK1, hK2⟩ := hK
  refine (calls_all false fg m fc _ T.root.few).mono ?_
  rintro e w2 ⟨rfl, mq, hw2⟩
  have B2 := up_drew (Below.refl _ _) hw2
  clear hw2
  go_wp2_with fail
  have hk := cell_at (kept_at (blk_alloc_new wz (.cells #[.int .i64 K] 3)) B2) 0
  simp at hk
  have B12 := below_up' (below_one wz (.cells #[.int .i64 K] 3)) B2
  have Y := stop_yields w2 l0 rg wz.heap.size K hk
  refine (root_all Y t kg m kc kb nd P _ (stopI_start w2) (T.root.below B12)).mono ?_
  rintro e w3 ⟨b, rfl, hE⟩
  obtain ⟨k, hI, hkm, hkv, rfl⟩ := stop_ends hE (by omega) hK1
  simp only [Nat.sub_zero] at hkm hkv ⊢
  have c3 := cell_at hI.2 0
  simp at c3
  have k3 := (hI.1.cell (p := ⟨wz.heap.size, 0, none⟩) (World.block_lt_of_cell? _ _ hk)).trans hk
  have BF := below_up' BZ (below_up' B12 hI.1)
  have hkk : k ≤ 1024 := by omega
  rw [strs_length] at c3
  clear hE T
  by_cases hmK : (m : Int) < K
  · rw [if_pos hmK] at hkv
    rw [decide_eq_true hmK]
    have hkv' : ((k : Int) == m) = true := by simpa using hkv
    clear hkv hI hk B12 B2 Y
    go_wp2
    go_ret
    exact ⟨rfl, BF⟩
  · rw [if_neg hmK] at hkv
    rw [decide_eq_false hmK]
    have hkv' : ((k : Int) == K) = true := by simpa using hkv
    clear hkv hI hk B12 B2 Y
    go_wp2
    go_ret
    exact ⟨rfl, BF⟩
/-! ### What the tree's keys say -/
theorem lt_n {w w' : World} {t rg kg kc fg m n : Nat} {kb nd P : Nat → Nat} {zs : List Int} (T : Tree w w' t rg kg kc fg m n kb nd P zs) {j : Nat} (hj : j < m) : P j < n := by
  have := T.root.lt j hj; have := T.root.le j hj; omega
theorem Tree.rise {w w' : World} {t rg kg kc fg m n : Nat} {kb nd P : Nat → Nat} {zs : List Int} (T : Tree w w' t rg kg kc fg m n kb nd P zs) (hz : ∀ j, 0 ≤ zs.getD j 0 ∧ zs.getD j 0 ≤ 255) :
    ∀ a b, a ≤ b → b < m → cum zs (P a + 1) ≤ cum zs (P b + 1) := fun a b h1 h2 => cum_mono hz _ _ (by have := P_mono T.root.lt a b h1 (by omega); omega)

set_option maxRecDepth 100000 in
set_option maxHeartbeats 1000000 in
theorem stop_tree_some (a0 a1 : Option Addr) (l0 c0 l1 c1 : Nat) (x : Int) (st : Int) (z0 z1 : List Int) (w : World) (hn : l0 ≤ 1024) (hpos : 0 < l0) (i0 : IsRow .u8 w a0 l0 c0 z0) (i1 : IsRow .u8 w a1 l1 c1 z1) (s0 : 0 ≤ st) (s1 : st ≤ 255) (x0 : -9223372036854775808 ≤ x) (x1 : x ≤ 9223372036854775807) :
    Calls Yba.prog 6 #[.slice a0 l0 c0, .slice a1 l1 c1, .int .i64 x, .bool true, .bool false, .int .u8 st] w fun e w' => e = .returned (.bool true) ∧ Below w.heap.size w w' := by
  have hbz := i0.bytes
  have HBZ : Hid (∀ j, 0 ≤ z0.getD j 0 ∧ z0.getD j 0 ≤ 255) := hbz
  clear hbz
  go_enter Yba.func6, Yba.ntmps6
  go_wp2_with fail
  refine (build_tree a0 a1 l0 c0 l1 c1 z0 z1 w hn hpos i0 i1).mono ?_
  rintro e wy ⟨t, kg, kc, fg, fc, m, kb, nd, P, rfl, T⟩
  obtain ⟨rg, hrg⟩ : ∃ rg, rg = w.heap.size := ⟨_, rfl⟩
  rw [← hrg] at T
  have hpm := T.root.pos
  have hfm := T.root.few
  clear i0 i1 hrg
  go_wp2_with fail
  refine (newInt_any x _ x0 x1).mono ?_
  rintro e wz ⟨q, rfl, _, hq, BQ⟩
  have BZ := below_up' T.bel BQ
  obtain ⟨r, hr⟩ := lowB_exists (fun j => cum z0 (P j + 1)) x m (T.rise HBZ.out)
  have hrm := hr.1
  obtain ⟨s, hs⟩ := lowB_exists (fun j => cum z0 (P (r - 1) + j + 1)) x (P (r - 1 + 1) - P (r - 1)) (fun a b h1 _ => cum_mono HBZ.out _ _ (by omega))
  have HRR : Hid (LowB (fun j => cum z0 (P j + 1)) m x r) := hr
  have HSS : Hid (LowB (fun j => cum z0 (P (r - 1) + j + 1)) (P (r - 1 + 1) - P (r - 1)) x s) := hs
  clear hr hs
  go_wp2_with fail
  have hK : 1 ≤ st % 4 + 1 ∧ st % 4 + 1 ≤ 4 := by omega
  generalize st % 4 + 1 = K at hK ⊢
  obtain ⟨hK1, hK2⟩ := hK
  have BK := below_one wz (.cells #[.int .i64 K] 3)
  have BYK := below_up' BQ BK
  refine (calls_some false fg m fc q r (fun j => kb (P j)) (fun j => cum z0 (P j + 1)) x _ hfm HRR.out (fun j hj => (BYK.cell (p := ⟨fg, j, none⟩) (World.block_lt_of_cell? _ _ (T.fsts j hj))).trans (T.fsts j hj)) (fun j hj => (T.held.keys (P j) (lt_n T hj)).below BYK) (hq.below BK)).mono ?_
  rintro e w2 ⟨rfl, mq, hw2⟩
  have B2 := up_drew (Below.refl _ _) hw2
  clear hw2
  go_wp2_with fail
  have hk := cell_at (kept_at (blk_alloc_new wz (.cells #[.int .i64 K] 3)) B2) 0
  simp at hk
  have B12 := below_up' BK B2
  have BY2 := below_up' BQ B12
  have Y := stop_yields w2 l0 rg wz.heap.size K hk
  refine (root_some Y t kg m kc q r s kb nd P (fun j => (j : Int)) (fun j => cum z0 (j + 1)) x _ (stopI_start w2) (T.root.below BY2) (fun a b h1 _ => cum_mono HBZ.out _ _ (by omega)) (fun j hj => ((T.held.below BY2).recs.at (Nat.le_refl _) hj)) (fun j hj => (T.held.below BY2).keys j hj) (hq.below B12) HRR.out HSS.out).mono ?_
  rintro e w3 ⟨b, rfl, hE⟩
  obtain ⟨k, hI, hkm, hkv, rfl⟩ := stop_ends hE (by omega) hK1
  have c3 := cell_at hI.2 0
  simp at c3
  have k3 := (hI.1.cell (p := ⟨wz.heap.size, 0, none⟩) (World.block_lt_of_cell? _ _ hk)).trans hk
  have BF := below_up' BZ (below_up' B12 hI.1)
  have hkk : k ≤ 1024 := by omega
  rw [strs_length] at c3
  clear hE T HRR HSS HBZ hq BQ BK BYK BY2
  obtain ⟨tt, htt⟩ : ∃ tt, tt = m - (r - 1) := ⟨_, rfl⟩
  rw [← htt] at hkv hkm ⊢
  have htm : tt ≤ 1024 := by omega
  clear htt
  by_cases hmK : ((tt : Nat) : Int) < K
  · rw [if_pos hmK] at hkv
    rw [decide_eq_true hmK]
    have hkv' : ((k : Int) == ((tt : Nat) : Int)) = true := by simpa using hkv
    clear hkv hI hk B12 B2 Y
    go_wp2
    go_ret
    exact ⟨rfl, BF⟩
  · rw [if_neg hmK] at hkv
    rw [decide_eq_false hmK]
    have hd : decide (((tt : Nat) : Int) < K) = false := decide_eq_false hmK
    have hkv' : ((k : Int) == K) = true := by simpa using hkv
    clear hkv hI hk B12 B2 Y
    go_wp2
    go_ret
    exact ⟨rfl, BF⟩

set_option maxRecDepth 100000 in
set_option maxHeartbeats 1000000 in
theorem stop_flat_none (a0 a1 : Option Addr) (l0 c0 l1 c1 : Nat) (x : Int) (st : Int) (fl : Bool) (z0 : List Int) (w : World) (hn : l0 ≤ 1024) (hfl : fl = true ∨ l0 = 0) (i0 : IsRow .u8 w a0 l0 c0 z0) (s0 : 0 ≤ st) (s1 : st ≤ 255) :
    Calls Yba.prog 6 #[.slice a0 l0 c0, .slice a1 l1 c1, .int .i64 x, .bool false, .bool fl, .int .u8 st] w fun e w' => e = .returned (.bool true) ∧ Below w.heap.size w w' := by
  go_enter Yba.func6, Yba.ntmps6
  go_wp2_with fail
  refine (build_flat a0 a1 l0 c0 l1 c1 z0 fl w hn i0 hfl).mono ?_
  rintro e wz ⟨t, rg, kb, rfl, HL, HD, BZ⟩
  clear i0
  go_wp2_with fail
  have hK : 1 ≤ st % 4 + 1 ∧ st % 4 + 1 ≤ 4 := by omega
  generalize st % 4 + 1 = K at hK ⊢
  obtain ⟨hK1, hK2⟩ := hK
  refine (calls_nil fl none _).mono ?_
  rintro e w2 ⟨rfl, mq, hw2⟩
  have B2 := up_drew (Below.refl _ _) hw2
  clear hw2
  go_wp2_with fail
  have hk := cell_at (kept_at (blk_alloc_new wz (.cells #[.int .i64 K] 3)) B2) 0
  simp at hk
  have B12 := below_up' (below_one wz (.cells #[.int .i64 K] 3)) B2
  have Y := stop_yields w2 l0 rg wz.heap.size K hk
  refine (leaf_all Y t 0 l0 l0 [] _ (stopI_start w2) (by simp) (kept_at HL B12) (Nat.zero_le _) (Nat.le_refl _) (by omega) hn).mono ?_
  rintro e w3 ⟨rfl, hI⟩
  have c3 := cell_at hI.2 0
  simp at c3
  have k3 := (hI.1.cell (p := ⟨wz.heap.size, 0, none⟩) (World.block_lt_of_cell? _ _ hk)).trans hk
  have BF := below_up' BZ (below_up' B12 hI.1)
  have HR : stopR K ([] ++ [(0, l0)]) = decide (1 < K) := by simp [stopR]
  rw [HR]
  clear HR
  by_cases hmK : 1 < K
  · rw [decide_eq_true hmK]
    clear hI hk B12 B2 Y
    go_wp2
    go_ret
    exact ⟨rfl, BF⟩
  · obtain rfl : K = 1 := by omega
    rw [decide_eq_false hmK]
    clear hI hk B12 B2 Y
    go_wp2
    go_ret
    exact ⟨rfl, BF⟩

set_option maxRecDepth 100000 in
set_option maxHeartbeats 1000000 in
theorem stop_flat_some (a0 a1 : Option Addr) (l0 c0 l1 c1 : Nat) (x : Int) (st : Int) (fl : Bool) (z0 : List Int) (w : World) (hn : l0 ≤ 1024) (hfl : fl = true ∨ l0 = 0) (i0 : IsRow .u8 w a0 l0 c0 z0) (s0 : 0 ≤ st) (s1 : st ≤ 255) (x0 : -9223372036854775808 ≤ x) (x1 : x ≤ 9223372036854775807) :
    Calls Yba.prog 6 #[.slice a0 l0 c0, .slice a1 l1 c1, .int .i64 x, .bool true, .bool fl, .int .u8 st] w fun e w' => e = .returned (.bool true) ∧ Below w.heap.size w w' := by
  have hbz := i0.bytes
  have HBZ : Hid (∀ j, 0 ≤ z0.getD j 0 ∧ z0.getD j 0 ≤ 255) := hbz
  clear hbz
  go_enter Yba.func6, Yba.ntmps6
  go_wp2_with fail
  refine (build_flat a0 a1 l0 c0 l1 c1 z0 fl w hn i0 hfl).mono ?_
  rintro e wy ⟨t, rg, kb, rfl, HL, HD, BY⟩
  clear i0
  go_wp2_with fail
  refine (newInt_any x _ x0 x1).mono ?_
  rintro e wz ⟨q, rfl, _, hq, BQ⟩
  have BZ := below_up' BY BQ
  obtain ⟨r, hr⟩ := lowB_exists (fun j => cum z0 (0 + j + 1)) x (l0 - 0) (fun a b h1 _ => cum_mono HBZ.out _ _ (by omega))
  have HRR : Hid (LowB (fun j => cum z0 (0 + j + 1)) (l0 - 0) x r) := hr
  clear hr
  go_wp2_with fail
  have hK : 1 ≤ st % 4 + 1 ∧ st % 4 + 1 ≤ 4 := by omega
  generalize st % 4 + 1 = K at hK ⊢
  obtain ⟨hK1, hK2⟩ := hK
  refine (calls_nil fl _ _).mono ?_
  rintro e w2 ⟨rfl, mq, hw2⟩
  have B2 := up_drew (Below.refl _ _) hw2
  clear hw2
  go_wp2_with fail
  have hk := cell_at (kept_at (blk_alloc_new wz (.cells #[.int .i64 K] 3)) B2) 0
  simp at hk
  have B12 := below_up' (below_one wz (.cells #[.int .i64 K] 3)) B2
  have BY2 := below_up' BQ B12
  have Y := stop_yields w2 l0 rg wz.heap.size K hk
  refine (leaf_some Y t 0 l0 l0 q r kb (fun j => (j : Int)) (fun j => cum z0 (j + 1)) x [] _ (stopI_start w2) (by simp) (kept_at HL BY2) (Nat.zero_le _) (Nat.le_refl _) (by omega) hn (fun a b h1 _ => cum_mono HBZ.out _ _ (by omega)) (fun j hj => ((HD.below BY2).recs.at (Nat.le_refl _) hj)) (fun j hj => (HD.below BY2).keys j hj) (hq.below B12) HRR.out).mono ?_
  rintro e w3 ⟨rfl, hI⟩
  have c3 := cell_at hI.2 0
  simp at c3
  have k3 := (hI.1.cell (p := ⟨wz.heap.size, 0, none⟩) (World.block_lt_of_cell? _ _ hk)).trans hk
  have BF := below_up' BZ (below_up' B12 hI.1)
  have HR : stopR K ([] ++ [(0 + r, l0)]) = decide (1 < K) := by simp [stopR]
  rw [HR]
  clear HR
  by_cases hmK : 1 < K
  · rw [decide_eq_true hmK]
    clear hI hk B12 B2 Y
    go_wp2
    go_ret
    exact ⟨rfl, BF⟩
  · obtain rfl : K = 1 := by omega
    rw [decide_eq_false hmK]
    clear hI hk B12 B2 Y
    go_wp2
    go_ret
    exact ⟨rfl, BF⟩
end Go.Proofs.Ybulkexa
