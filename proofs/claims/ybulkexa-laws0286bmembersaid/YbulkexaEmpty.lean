/- THE CONTRACT of '(curve.Box).Empty'; the plain law between it and Intersect. -/
import Derived.Test.YbulkexaHolds
namespace Go.Proofs.Ybulkexa
open Go.RowKit Go.Deep

/-- Does some of the first n places have g below f? -/
def emB (f g : Nat → Int) : Nat → Bool
  | 0 => false
  | k + 1 => emB f g k || decide (g k < f k)
theorem emB_iff (f g : Nat → Int) : ∀ n, emB f g n = true ↔ ∃ j, j < n ∧ g j < f j
  | 0 => by simp [emB]
  | n + 1 => by
    simp only [emB, Bool.or_eq_true, emB_iff f g n, decide_eq_true_eq]
    constructor
    · rintro (⟨j, hj, h⟩ | h)
      · exact ⟨j, by omega, h⟩
      · exact ⟨n, by omega, h⟩
    · rintro ⟨j, hj, h⟩
      by_cases e : j = n
      · subst e; exact .inr h
      · exact .inl ⟨j, by omega, h⟩
theorem emB_congr {f g f' g' : Nat → Int} : ∀ {n : Nat}, (∀ j, j < n → f j = f' j ∧ g j = g' j) → emB f g n = emB f' g' n
  | 0, _ => rfl
  | n + 1, h => by
    rw [emB, emB, emB_congr fun j hj => h j (by omega), (h n (by omega)).1, (h n (by omega)).2]
theorem emB_true {f g : Nat → Int} {n k : Nat} (hk : k < n) (h : g k < f k) : emB f g n = true := (emB_iff f g n).2 ⟨k, hk, h⟩

set_option maxRecDepth 100000 in
set_option maxHeartbeats 1000000 in
theorem empty_any (g1 g2 n : Nat) (f g : Nat → Int) (r : Bool) (w : World) (hm : n ≤ 1024) (hr : emB f g n = r)
    (R1 : w.rowIs g1 27 n (fun j => .int .u64 (f j))) (R2 : w.rowIs g2 27 n (fun j => .int .u64 (g j))) :
    Calls Yba.prog 10 #[.agg #[.slice (some ⟨g1, 0, none⟩) n n, .slice (some ⟨g2, 0, none⟩) n n]] w
      fun e w' => e = .returned (.bool r) ∧ Below w.heap.size w w' := by
  have HR : Hid (emB f g n = r) := hr
  clear hr
  have BA := below_alloc w (.cells #[.slice (some ⟨g1, 0, none⟩) n n, .slice (some ⟨g2, 0, none⟩) n n] 25)
  have kb := blk_alloc_new w (.cells #[.slice (some ⟨g1, 0, none⟩) n n, .slice (some ⟨g2, 0, none⟩) n n] 25)
  have T1 := rowIs_below R1 BA
  have T2 := rowIs_below R2 BA
  clear R1 R2
  go_enter Yba.func10, Yba.ntmps10
  go_wp2
  generalize w.alloc (.cells #[.slice (some ⟨g1, 0, none⟩) n n, .slice (some ⟨g2, 0, none⟩) n n] 25) = W at BA kb T1 T2 ⊢
  have kb0 := cell_blk kb 0
  have kb1 := cell_blk kb 1
  simp at kb0 kb1
  clear kb
  go_loopw [7] (fun i wr => ∃ (k nq : Nat), k ≤ n ∧ i = .int .i64 k ∧ wr = W.drewN nq ∧ Hid (emB f g k = false)) (fun i _ => n - (intOf i).toNat)
  case atStart => exact ⟨0, 0, Nat.zero_le _, rfl, rfl, rfl⟩
  case round =>
    obtain ⟨k, nq, hk, rfl, rfl, HI⟩ := hrel
    by_cases hlt : k < n
    · have y1 := T1.cell hlt
      have y2 := T2.cell hlt
      have HE : Hid (emB f g (k + 1) = (emB f g k || decide (g k < f k))) := rfl
      have HF : Hid (g k < f k → emB f g n = true) := fun h => emB_true hlt h
      generalize f k = v1 at y1 HE HF
      generalize g k = v2 at y2 HE HF
      clear T1 T2
      have hln : (k : Int) < (n : Int) := by omega
      by_cases p : v2 < v1
      · go_wp2_with fail
        go_quiet (fail)
        go_wp2
        go_ret
        refine ⟨?_, by first | exact below_drewN BA _ | exact below_drewN (below_drewN BA _) _⟩
        have h1 := HF.out p
        rw [HR.out] at h1
        rw [h1]; rfl
      · go_wp2_with fail
        go_quiet (fail)
        go_wp2
        go_roundw
        case rel => exact ⟨k + 1, _, by omega, by go_num, rfl, show _ = _ from by rw [HE.out, HI.out]; simp; omega⟩
        case measure => simp [intOf]; omega
    · obtain rfl : k = n := by omega
      go_wp2
      go_ret
      refine ⟨?_, below_drewN BA _⟩
      have h1 := HI.out
      rw [HR.out] at h1
      rw [h1]; rfl
end Go.Proofs.Ybulkexa
