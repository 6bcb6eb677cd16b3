/- math/big AT INTEGERS OF 64 BITS: 'NewInt', '(nat).cmp', '(*Int).Cmp'. -/
import Derived.Test.YbulkexaRows
import Derived.WalkKit
import Derived.WalkSpells
import Derived.WalkLawsBesides
import Derived.BigQuiet
import Derived.Deep.Light
import Derived.Deep.OwnRows
import Derived.Deep.QuietTactic
import Derived.LaidEqlPtr
namespace Go.Proofs.Ybulkexa
open Go.RowKit Go.Deep

/-- The magnitude; what Cmp answers. -/
def mag (x : Int) : Int := if x < 0 then -x else x
def cmpZ (x y : Int) : Int := if x < y then -1 else if y < x then 1 else 0

/-- Block b holds the big.Int x: no word at 0, else one. -/
def BigIs (w : World) (b : Nat) (x : Int) : Prop :=
  (x = 0 ∧ w.heap[b]? = some (.cells #[.bool false, .slice none 0 0] 62 (0, 0))) ∨
  (x ≠ 0 ∧ ∃ c : Nat, w.heap[b]? = some (.cells #[.bool (decide (x < 0)), .slice (some ⟨c, 0, none⟩) 1 1] 62 (0, 0)) ∧ w.heap[c]? = some (.cells #[.int .u64 (mag x)] 59 (0, 0)))

theorem cell_at {W : World} {b : Nat} {c : Array Value} {t : TypeId} (h : W.heap[b]? = some (.cells c t)) (j : Nat) : W.cell? ⟨b, j, none⟩ = c[j]? := by
  simp [World.cell?, h]
theorem free_at {W : World} {b : Nat} {c : Array Value} {t : TypeId} (h : W.heap[b]? = some (.cells c t (0, 0))) (j : Nat) : W.frozen? ⟨b, j, none⟩ = false := by
  simp [World.frozen?, h]
theorem lt_at {w : World} {b : Nat} {o : Obj} (h : w.heap[b]? = some o) : b < w.heap.size := by
  rcases Nat.lt_or_ge b w.heap.size with h' | h'
  · exact h'
  · simp [Array.getElem?_eq_none h'] at h
theorem kept_at {w w' : World} {b : Nat} {o : Obj} (h : w.heap[b]? = some o) (hb : Below w.heap.size w w') : w'.heap[b]? = some o :=
  (hb.block b (lt_at h)).trans h
theorem two_at (w : World) (o o' : Obj) : ((w.alloc o).alloc o').heap[w.heap.size]? = some o ∧ ((w.alloc o).alloc o').heap[w.heap.size + 1]? = some o' := by
  refine ⟨(blk_alloc_lt _ _ _ (by simp)).trans (blk_alloc_new _ _), ?_⟩
  have h := blk_alloc_new (w.alloc o) o'
  rw [World.size_alloc] at h
  exact h

theorem BigIs.below {w w' : World} {b : Nat} {x : Int} (h : BigIs w b x) (hb : Below w.heap.size w w') : BigIs w' b x := by
  rcases h with ⟨h1, h2⟩ | ⟨h1, c, h2, h3⟩
  · exact .inl ⟨h1, kept_at h2 hb⟩
  · exact .inr ⟨h1, c, kept_at h2 hb, kept_at h3 hb⟩
theorem BigIs.lt {w : World} {b : Nat} {x : Int} (h : BigIs w b x) : b < w.heap.size := by
  rcases h with ⟨_, h2⟩ | ⟨_, c, h2, _⟩
  · exact lt_at h2
  · exact lt_at h2
theorem BigIs.block {w : World} {b : Nat} {x : Int} (h : BigIs w b x) : ∃ c, w.heap[b]? = some (.cells c 62 (0, 0)) := by
  rcases h with ⟨_, h2⟩ | ⟨_, c, h2, _⟩
  · exact ⟨_, h2⟩
  · exact ⟨_, h2⟩

theorem neg_mag {x : Int} (h0 : x < 0) (h1 : -9223372036854775808 ≤ x) : IntKind.u64.wrap (-IntKind.u64.wrap x) = mag x := by
  unfold mag
  rw [if_pos h0]
  simp only [IntKind.wrap_u64]
  omega

set_option maxRecDepth 100000 in
set_option maxHeartbeats 400000 in
theorem newInt_pos (x : Int) (w : World) (hx : 0 < x) (h2 : x ≤ 9223372036854775807) :
    Calls Yba.prog 12 #[.int .i64 x] w fun e w' => ∃ b, e = .returned (.pointer (some ⟨b, 0, none⟩)) ∧ w.heap.size ≤ b ∧ BigIs w' b x ∧ Below w.heap.size w w' := by
  go_enter Yba.func12, Yba.ntmps12
  go_wp2
  go_ret
  have t := two_at w (.cells #[.int .u64 x] 59) (.cells #[.bool (decide (x < 0)), .slice (some ⟨w.heap.size, 0, none⟩) 1 1] 62)
  refine ⟨_, rfl, by omega, .inr ⟨by omega, w.heap.size, t.2, ?_⟩, ((Below.refl _ _).alloc (Nat.le_refl _) _).alloc (by simp) _⟩
  rw [t.1, mag, if_neg (by omega)]

set_option maxRecDepth 100000 in
set_option maxHeartbeats 400000 in
theorem newInt_neg (x : Int) (w : World) (hx : x < 0) (h2 : -9223372036854775808 ≤ x) :
    Calls Yba.prog 12 #[.int .i64 x] w fun e w' => ∃ b, e = .returned (.pointer (some ⟨b, 0, none⟩)) ∧ w.heap.size ≤ b ∧ BigIs w' b x ∧ Below w.heap.size w w' := by
  have HM : Hid (IntKind.u64.wrap (-IntKind.u64.wrap x) = mag x) := neg_mag hx h2
  go_enter Yba.func12, Yba.ntmps12
  go_wp2
  go_ret
  have t := two_at w (.cells #[.int .u64 (IntKind.u64.wrap (-IntKind.u64.wrap x))] 59) (.cells #[.bool true, .slice (some ⟨w.heap.size, 0, none⟩) 1 1] 62)
  refine ⟨_, rfl, by omega, .inr ⟨by omega, w.heap.size, ?_, ?_⟩, ((Below.refl _ _).alloc (Nat.le_refl _) _).alloc (by simp) _⟩
  · rw [t.2, decide_eq_true hx]
  · rw [t.1, HM.out]

set_option maxRecDepth 100000 in
set_option maxHeartbeats 400000 in
theorem newInt_zero (w : World) :
    Calls Yba.prog 12 #[.int .i64 0] w fun e w' => ∃ b, e = .returned (.pointer (some ⟨b, 0, none⟩)) ∧ w.heap.size ≤ b ∧ BigIs w' b 0 ∧ Below w.heap.size w w' := by
  go_enter Yba.func12, Yba.ntmps12
  go_wp2
  go_ret
  exact ⟨_, rfl, Nat.le_refl _, .inl ⟨rfl, blk_alloc_new _ _⟩, (Below.refl _ _).alloc (Nat.le_refl _) _⟩

/-- math/big.NewInt, whatever the number. -/
theorem newInt_any (x : Int) (w : World) (h1 : -9223372036854775808 ≤ x) (h2 : x ≤ 9223372036854775807) :
    Calls Yba.prog 12 #[.int .i64 x] w fun e w' => ∃ b, e = .returned (.pointer (some ⟨b, 0, none⟩)) ∧ w.heap.size ≤ b ∧ BigIs w' b x ∧ Below w.heap.size w w' := by
  by_cases h0 : x < 0
  · exact newInt_neg x w h0 h1
  by_cases h3 : x = 0
  · subst h3; exact newInt_zero w
  · exact newInt_pos x w (by omega) h2

/-! ### (nat).cmp -/
set_option maxRecDepth 100000 in
set_option maxHeartbeats 400000 in
theorem natCmp_00 (w : World) : Calls Yba.prog 28 #[.slice none 0 0, .slice none 0 0] w fun e w' => e = .returned (.int .i64 0) ∧ ∃ m, w' = w.drewN m := by
  go_enter Yba.func28, Yba.ntmps28
  go_wp2
  go_ret
  exact ⟨rfl, 0, rfl⟩
set_option maxRecDepth 100000 in
set_option maxHeartbeats 400000 in
theorem natCmp_01 (d : Nat) (w : World) : Calls Yba.prog 28 #[.slice none 0 0, .slice (some ⟨d, 0, none⟩) 1 1] w fun e w' => e = .returned (.int .i64 (-1)) ∧ ∃ m, w' = w.drewN m := by
  go_enter Yba.func28, Yba.ntmps28
  go_wp2
  go_ret
  exact ⟨rfl, 0, rfl⟩
set_option maxRecDepth 100000 in
set_option maxHeartbeats 400000 in
theorem natCmp_10 (c : Nat) (w : World) : Calls Yba.prog 28 #[.slice (some ⟨c, 0, none⟩) 1 1, .slice none 0 0] w fun e w' => e = .returned (.int .i64 1) ∧ ∃ m, w' = w.drewN m := by
  go_enter Yba.func28, Yba.ntmps28
  go_wp2
  go_ret
  exact ⟨rfl, 0, rfl⟩

set_option maxRecDepth 100000 in
set_option maxHeartbeats 400000 in
theorem natCmp_11 (c d : Nat) (x y : Int) (w : World) (hc : w.cell? ⟨c, 0, none⟩ = some (.int .u64 x)) (hd : w.cell? ⟨d, 0, none⟩ = some (.int .u64 y)) :
    Calls Yba.prog 28 #[.slice (some ⟨c, 0, none⟩) 1 1, .slice (some ⟨d, 0, none⟩) 1 1] w fun e w' => e = .returned (.int .i64 (cmpZ x y)) ∧ ∃ m, w' = w.drewN m := by
  by_cases h1 : x < y
  · have HC : Hid (cmpZ x y = -1) := by show _ = _; unfold cmpZ; rw [if_pos h1]
    go_enter Yba.func28, Yba.ntmps28
    go_wp2
    refine wp_loop_rounds 1 ?_
    rw [rounds_succ]
    go_wp2
    go_quiet (fail)
    go_wp2
    go_quiet (fail)
    go_wp2
    go_ret
    refine ⟨?_, _, World.drewN_drewN _ _ _⟩
    rw [HC.out]; rfl
  · by_cases h2 : y < x
    · have HC : Hid (cmpZ x y = 1) := by show _ = _; unfold cmpZ; rw [if_neg h1, if_pos h2]
      go_enter Yba.func28, Yba.ntmps28
      go_wp2
      refine wp_loop_rounds 1 ?_
      rw [rounds_succ]
      go_wp2
      go_quiet (fail)
      go_wp2
      go_quiet (fail)
      go_wp2
      go_quiet (fail)
      go_wp2
      go_ret
      refine ⟨?_, _, by rw [World.drewN_drewN, World.drewN_drewN]⟩
      rw [HC.out]; rfl
    · have HC : Hid (cmpZ x y = 0) := by show _ = _; unfold cmpZ; rw [if_neg h1, if_neg h2]
      go_enter Yba.func28, Yba.ntmps28
      go_wp2
      refine wp_loop_rounds 1 ?_
      rw [rounds_succ]
      go_wp2
      go_quiet (fail)
      go_wp2
      go_quiet (fail)
      go_wp2
      go_quiet (fail)
      go_wp2
      go_ret
      refine ⟨?_, _, by rw [World.drewN_drewN, World.drewN_drewN]⟩
      rw [HC.out]; rfl
end Go.Proofs.Ybulkexa
