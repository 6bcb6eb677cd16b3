/- '(*math/big.Int).Cmp' at integers of 64 bits. -/
import Derived.Test.YbulkexaBig
namespace Go.Proofs.Ybulkexa
open Go.RowKit Go.Deep

/-- What a big.Int's block says: its sign, its words. -/
theorem BigIs.parts {w : World} {b : Nat} {x : Int} (h : BigIs w b x) :
    ∃ a l c, w.cell? ⟨b, 0, none⟩ = some (.bool (decide (x < 0))) ∧ w.cell? ⟨b, 1, none⟩ = some (.slice a l c) ∧
      ((x = 0 ∧ a = none ∧ l = 0 ∧ c = 0) ∨ (x ≠ 0 ∧ l = 1 ∧ c = 1 ∧ ∃ d, a = some ⟨d, 0, none⟩ ∧ w.cell? ⟨d, 0, none⟩ = some (.int .u64 (mag x)))) := by
  rcases h with ⟨rfl, h2⟩ | ⟨h1, c, h2, h3⟩
  · exact ⟨none, 0, 0, by rw [cell_at h2]; rfl, by rw [cell_at h2]; rfl, .inl ⟨rfl, rfl, rfl, rfl⟩⟩
  · exact ⟨some ⟨c, 0, none⟩, 1, 1, by rw [cell_at h2]; rfl, by rw [cell_at h2]; rfl, .inr ⟨h1, rfl, rfl, c, rfl, by rw [cell_at h3]; rfl⟩⟩

theorem natCmp_any {x y : Int} {a b : Option Addr} {l c m d : Nat} (w : World)
    (hx : (x = 0 ∧ a = none ∧ l = 0 ∧ c = 0) ∨ (x ≠ 0 ∧ l = 1 ∧ c = 1 ∧ ∃ e, a = some ⟨e, 0, none⟩ ∧ w.cell? ⟨e, 0, none⟩ = some (.int .u64 (mag x))))
    (hy : (y = 0 ∧ b = none ∧ m = 0 ∧ d = 0) ∨ (y ≠ 0 ∧ m = 1 ∧ d = 1 ∧ ∃ e, b = some ⟨e, 0, none⟩ ∧ w.cell? ⟨e, 0, none⟩ = some (.int .u64 (mag y)))) :
    Calls Yba.prog 28 #[.slice a l c, .slice b m d] w fun e w' => e = .returned (.int .i64 (cmpZ (mag x) (mag y))) ∧ ∃ m, w' = w.drewN m := by
  have mp : ∀ z : Int, z ≠ 0 → 0 < mag z := fun z hz => by unfold mag; split <;> omega
  have m0 : mag 0 = 0 := rfl
  rcases hx with ⟨rfl, rfl, rfl, rfl⟩ | ⟨hx, rfl, rfl, e, rfl, he⟩
  · rcases hy with ⟨rfl, rfl, rfl, rfl⟩ | ⟨hy, rfl, rfl, f, rfl, hf⟩
    · exact natCmp_00 _
    · have : cmpZ (mag 0) (mag y) = -1 := by have := mp y hy; unfold cmpZ; rw [m0, if_pos this]
      rw [this]
      exact natCmp_01 f _
  · rcases hy with ⟨rfl, rfl, rfl, rfl⟩ | ⟨hy, rfl, rfl, f, rfl, hf⟩
    · have : cmpZ (mag x) (mag 0) = 1 := by have := mp x hx; unfold cmpZ; rw [m0, if_neg (by omega), if_pos this]
      rw [this]
      exact natCmp_10 e _
    · exact natCmp_11 e f _ _ _ he hf

/-- A quiet callee, met behind a first region's draws. -/
theorem quiet_add {P : Program} {f : FuncId} {args : Array Value} {w : World} {k n : Nat} {v : Value}
    (h : Calls P f args (w.drewN (k + n)) fun e w' => e = .returned v ∧ ∃ m, w' = (w.drewN (k + n)).drewN m) : Calls P f args (w.drewN (k + n)) fun e w'' => e = .returned v ∧ ∃ m, w'' = w.drewN (k + m) :=
  h.mono fun _ _ ⟨he, m, hm⟩ => ⟨he, n + m, by rw [hm, World.drewN_drewN, Nat.add_assoc]⟩
theorem cmpZ_same (x : Int) : cmpZ x x = 0 := by unfold cmpZ; rw [if_neg (by omega), if_neg (by omega)]
theorem cmpZ_nn {x y : Int} (hx : ¬ x < 0) (hy : ¬ y < 0) : cmpZ (mag x) (mag y) = cmpZ x y := by unfold mag; rw [if_neg hx, if_neg hy]
theorem cmpZ_gg {x y : Int} (hx : x < 0) (hy : y < 0) : -cmpZ (mag x) (mag y) = cmpZ x y := by
  unfold mag cmpZ
  rw [if_pos hx, if_pos hy]
  split <;> split <;> (try split) <;> (try split) <;> omega
theorem cmpZ_bounds (x y : Int) : -1 ≤ cmpZ x y ∧ cmpZ x y ≤ 1 := by unfold cmpZ; split <;> (try split) <;> omega

theorem size62 : (Yba.prog.info? 62).map (·.size) = some 2 := by kernel_rfl

set_option maxRecDepth 100000 in
set_option maxHeartbeats 1000000 in
theorem cmp_other (p q : Nat) (x y : Int) (w : World) (hp : BigIs w p x) (hq : BigIs w q y) (hne : p ≠ q) :
    Calls Yba.prog 16 #[.pointer (some ⟨p, 0, none⟩), .pointer (some ⟨q, 0, none⟩)] w fun e w' => e = .returned (.int .i64 (cmpZ x y)) ∧ ∃ m, w' = w.drewN m := by
  obtain ⟨j, hj, hjs⟩ := Option.map_eq_some_iff.1 size62
  obtain ⟨cp, hbp⟩ := hp.block
  obtain ⟨cq, hbq⟩ := hq.block
  have he := run_eql_ptr_other (P := Yba.prog) w (a := ⟨p, 0, none⟩) (b := ⟨q, 0, none⟩) Yba.underlying38 hj (by rw [hjs]; decide) (by intro e; cases e; exact hne rfl) hbp hbq
  obtain ⟨a, l, c, c0, c1, hx⟩ := hp.parts
  obtain ⟨b, m, d, e0, e1, hy⟩ := hq.parts
  have HN := fun j : Nat => natCmp_any (w.drewN j) hx hy
  have hbd := cmpZ_bounds (mag x) (mag y)
  have HG : Hid (x < 0 → y < 0 → -cmpZ (mag x) (mag y) = cmpZ x y) := fun h k => cmpZ_gg h k
  have HM : Hid (¬ x < 0 → ¬ y < 0 → cmpZ (mag x) (mag y) = cmpZ x y) := fun h k => cmpZ_nn h k
  generalize cmpZ (mag x) (mag y) = r at HN hbd HG HM
  obtain ⟨r0, r1⟩ := hbd
  clear hj hjs hbp hbq hx hy hp hq
  by_cases hx0 : x < 0
  · by_cases hy0 : y < 0
    · have HE := HG.out hx0 hy0
      rw [← HE]
      clear HG HM HE
      rw [decide_eq_true hx0] at c0
      rw [decide_eq_true hy0] at e0
      clear hx0 hy0
      go_enter Yba.func16, Yba.ntmps16
      go_wp2
      go_quiet (fail)
      go_wp2
      go_quiet ((go_at_call 28; exact quiet_add (HN _)))
      go_wp2
      go_ret
      exact ⟨rfl, _, rfl⟩
    · have HE : cmpZ x y = -1 := by unfold cmpZ; rw [if_pos (by omega)]
      rw [HE]
      clear HG HM HE HN
      rw [decide_eq_true hx0] at c0
      rw [decide_eq_false hy0] at e0
      clear hx0 hy0
      go_enter Yba.func16, Yba.ntmps16
      go_wp2
      go_quiet (fail)
      go_wp2
      go_ret
      exact ⟨rfl, _, rfl⟩
  · by_cases hy0 : y < 0
    · have HE : cmpZ x y = 1 := by unfold cmpZ; rw [if_neg (by omega), if_pos (by omega)]
      rw [HE]
      clear HG HM HE HN
      rw [decide_eq_false hx0] at c0
      rw [decide_eq_true hy0] at e0
      clear hx0 hy0
      go_enter Yba.func16, Yba.ntmps16
      go_wp2
      go_quiet (fail)
      go_wp2
      go_ret
      exact ⟨rfl, _, rfl⟩
    · have HE := HM.out hx0 hy0
      rw [← HE]
      clear HG HM HE
      rw [decide_eq_false hx0] at c0
      rw [decide_eq_false hy0] at e0
      clear hx0 hy0
      go_enter Yba.func16, Yba.ntmps16
      go_wp2
      go_quiet (fail)
      go_wp2
      go_quiet ((go_at_call 28; exact quiet_add (HN _)))
      go_wp2
      go_ret
      exact ⟨rfl, _, rfl⟩

set_option maxRecDepth 100000 in
set_option maxHeartbeats 1000000 in
theorem cmp_same (p : Nat) (w : World) : Calls Yba.prog 16 #[.pointer (some ⟨p, 0, none⟩), .pointer (some ⟨p, 0, none⟩)] w fun e w' => e = .returned (.int .i64 0) ∧ ∃ m, w' = w.drewN m := by
  obtain ⟨j, hj, _⟩ := Option.map_eq_some_iff.1 size62
  have he := run_eql_ptr_same (P := Yba.prog) w ⟨p, 0, none⟩ Yba.underlying38 hj
  clear hj
  go_enter Yba.func16, Yba.ntmps16
  go_wp2
  go_ret
  exact ⟨rfl, 0, rfl⟩

/-- '(*big.Int).Cmp', whatever the two numbers, one and the same pointer or not. -/
theorem cmp_any (p q : Nat) (x y : Int) (w : World) (hp : BigIs w p x) (hq : BigIs w q y) :
    Calls Yba.prog 16 #[.pointer (some ⟨p, 0, none⟩), .pointer (some ⟨q, 0, none⟩)] w fun e w' => e = .returned (.int .i64 (cmpZ x y)) ∧ ∃ m, w' = w.drewN m := by
  by_cases h : p = q
  · subst h
    have e : x = y := by
      rcases hp with ⟨a, h1⟩ | ⟨a, c, h1, h2⟩
      · rcases hq with ⟨b, k1⟩ | ⟨b, d, k1, k2⟩
        · omega
        · rw [h1] at k1; simp at k1
      · rcases hq with ⟨b, k1⟩ | ⟨b, d, k1, k2⟩
        · rw [h1] at k1; simp at k1
        · rw [h1] at k1
          simp at k1
          obtain ⟨hs, rfl⟩ := k1
          rw [h2] at k2
          simp at k2
          unfold mag at k2
          by_cases hx : x < 0 <;> by_cases hy : y < 0 <;> simp [hx, hy] at hs k2 <;> omega
    subst e
    rw [cmpZ_same]
    exact cmp_same p w
  · exact cmp_other p q x y w hp hq h
end Go.Proofs.Ybulkexa
