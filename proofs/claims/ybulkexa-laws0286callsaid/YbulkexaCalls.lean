/- THE CONTRACT of 'node.zzs0286ccalls'. -/
import Derived.Test.YbulkexaFind
namespace Go.Proofs.Ybulkexa
open Go.RowKit Go.Deep

theorem lowB_unique {X : Nat → Int} {L : Nat} {y : Int} {r r' : Nat} (h : LowB X L y r) (h' : LowB X L y r') : r = r' := by
  rcases Nat.lt_trichotomy r r' with hlt | he | hgt
  · have a := h.2.2 r (Nat.le_refl _) (by have := h'.1; omega)
    have b := h'.2.1 r hlt
    omega
  · exact he
  · have a := h'.2.2 r' (Nat.le_refl _) (by have := h.1; omega)
    have b := h.2.1 r' hgt
    omega
theorem lowB_exists (X : Nat → Int) (y : Int) : ∀ L : Nat, (∀ s t, s ≤ t → t < L → X s ≤ X t) → ∃ r, LowB X L y r
  | 0, _ => ⟨0, Nat.le_refl _, fun _ h => by omega, fun _ h k => by omega⟩
  | L + 1, hm => by
    obtain ⟨r, h1, h2, h3⟩ := lowB_exists X y L fun s t h k => hm s t h (by omega)
    by_cases hr : r < L
    · refine ⟨r, by omega, h2, fun t ht hl => ?_⟩
      have a := h3 r (Nat.le_refl _) hr
      exact Int.le_trans a (hm r t ht hl)
    · obtain rfl : r = L := by omega
      by_cases hx : X r < y
      · refine ⟨r + 1, Nat.le_refl _, fun t ht => ?_, fun t ht hl => by omega⟩
        exact Int.lt_of_le_of_lt (hm t r (by omega) (by omega)) hx
      · refine ⟨r, by omega, h2, fun t ht hl => ?_⟩
        obtain rfl : t = r := by omega
        omega

set_option maxRecDepth 100000 in
set_option maxHeartbeats 400000 in
theorem calls_nil (f : Bool) (a : Option Addr) (w : World) :
    Calls Yba.prog 15 #[.slice none 0 0, .bool f, .pointer a] w fun e w' => e = .returned (.int .i64 1) ∧ ∃ m, w' = w.drewN m := by
  have hnil := fun (W : World) (a : Option Addr) (n c : Nat) => Lib.run_eql_slice_nil (P := Yba.prog) W 35 38 a n c 0 0 Yba.underlying35
  go_enter Yba.func15, Yba.ntmps15
  go_wp2
  go_ret
  exact ⟨rfl, 0, rfl⟩
set_option maxRecDepth 100000 in
set_option maxHeartbeats 400000 in
theorem calls_all (f : Bool) (g m c : Nat) (w : World) (_hm : m ≤ 1024) :
    Calls Yba.prog 15 #[.slice (some ⟨g, 0, none⟩) m c, .bool f, .pointer none] w fun e w' => e = .returned (.int .i64 m) ∧ ∃ m, w' = w.drewN m := by
  have hnil := fun (W : World) (a : Option Addr) (n c : Nat) => Lib.run_eql_slice_nil (P := Yba.prog) W 35 38 a n c 0 0 Yba.underlying35
  go_enter Yba.func15, Yba.ntmps15
  go_wp2
  go_ret
  exact ⟨rfl, 0, rfl⟩

set_option maxRecDepth 100000 in
set_option maxHeartbeats 1000000 in
theorem calls_some (f : Bool) (g m c q r : Nat) (kb : Nat → Nat) (X : Nat → Int) (y : Int) (w : World) (hm : m ≤ 1024) (hr : LowB X m y r)
    (hc : ∀ j, j < m → w.cell? ⟨g, j, none⟩ = some (.pointer (some ⟨kb j, 0, none⟩))) (hk : ∀ j, j < m → BigIs w (kb j) (X j)) (hq : BigIs w q y) :
    Calls Yba.prog 15 #[.slice (some ⟨g, 0, none⟩) m c, .bool f, .pointer (some ⟨q, 0, none⟩)] w fun e w' => e = .returned (.int .i64 ((m - (r - 1) : Nat) : Int)) ∧ ∃ m, w' = w.drewN m := by
  have hrm := hr.1
  have HR : Hid (LowB X m y r) := hr
  clear hr
  have hnil := fun (W : World) (a : Option Addr) (n c : Nat) => Lib.run_eql_slice_nil (P := Yba.prog) W 35 38 a n c 0 0 Yba.underlying35
  go_enter Yba.func15, Yba.ntmps15
  go_wp2
  go_loopw [7, 19] (fun p i wr => ∃ (k : Nat) (s : Nat), k ≤ m ∧ s = min k r ∧ p = .int .i64 s ∧ i = .int .i64 k ∧ ∃ nq, wr = w.drewN nq) (fun _ i _ => m - (intOf i).toNat)
  case atStart => exact ⟨0, 0, Nat.zero_le _, by omega, rfl, rfl, 0, rfl⟩
  case round =>
    obtain ⟨k, s, hkm, hs, rfl, rfl, nq0, rfl⟩ := hrel
    have hsm : s ≤ 1024 := by omega
    have HSS : Hid (s = min k r) := hs
    clear hs
    by_cases hlt : k < m
    · have c0 := hc k hlt
      have K1 : BigIs (w.drewN nq0) (kb k) (X k) := hk _ hlt
      have K2 : BigIs (w.drewN nq0) q y := hq
      go_wp2_with fail
      refine (cmp_any (kb k) q (X k) y _ K1 K2).mono ?_
      rintro e w1 ⟨rfl, nq, hw⟩
      have hw2 : w1 = w.drewN (nq0 + nq) := by rw [hw, World.drewN_drewN]
      subst hw2
      clear hw c0 K1 K2
      by_cases hx : k < r
      · have hx' := HR.out.2.1 k hx
        rw [cmpZ_lt hx']
        clear hx'
        go_wp2
        go_roundw
        case rel => exact ⟨k + 1, s + 1, by omega, by have := HSS.out; omega, by go_num, by go_num, _, rfl⟩
        case measure => simp [intOf]; omega
      · have hx' := HR.out.2.2 k (by omega) hlt
        have hge := cmpZ_ge (x := X k) (y := y) (by omega)
        generalize cmpZ (X k) y = v at hge ⊢
        clear hx'
        go_wp2
        go_roundw
        case rel => exact ⟨k + 1, s, by omega, by have := HSS.out; omega, rfl, by go_num, _, rfl⟩
        case measure => simp [intOf]; omega
    · obtain rfl : k = m := by omega
      obtain rfl : s = r := by have := HSS.out; omega
      by_cases h0 : s = 0
      · subst h0
        go_wp2
        go_ret
        exact ⟨rfl, _, rfl⟩
      · have HE : Hid (((k - (s - 1) : Nat) : Int) = (k : Int) - ((s : Int) - 1)) := by show _ = _; omega
        have h1 : (1 : Int) ≤ (s : Int) := by omega
        go_wp2
        go_ret
        refine ⟨?_, _, rfl⟩
        rw [HE.out]; rfl
end Go.Proofs.Ybulkexa
