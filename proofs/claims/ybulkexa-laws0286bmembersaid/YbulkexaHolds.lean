/- THE CONTRACTS of 'curve.zzs0286bholds' and '(curve.Box).Empty'; the plain law between them and Intersect. -/
import Derived.Test.YbulkexaExact
namespace Go.Proofs.Ybulkexa
open Go.RowKit Go.Deep

/-- Do the first n places of p lie between f and g? -/
def inB (p f g : Nat → Int) : Nat → Bool
  | 0 => true
  | k + 1 => inB p f g k && (decide (f k ≤ p k) && decide (p k ≤ g k))
theorem inB_iff (p f g : Nat → Int) : ∀ n, inB p f g n = true ↔ ∀ j, j < n → f j ≤ p j ∧ p j ≤ g j
  | 0 => by simp [inB]
  | n + 1 => by
    simp only [inB, Bool.and_eq_true, inB_iff p f g n, decide_eq_true_eq]
    constructor
    · intro h j hj
      by_cases e : j = n
      · subst e; exact h.2
      · exact h.1 j (by omega)
    · intro h
      exact ⟨fun j hj => h j (by omega), h n (by omega)⟩
theorem inB_false {p f g : Nat → Int} {n k : Nat} (hk : k < n) (h : ¬ (f k ≤ p k ∧ p k ≤ g k)) : inB p f g n = false := by
  cases e : inB p f g n with
  | false => rfl
  | true => exact absurd ((inB_iff p f g n).1 e k hk) h
/-- A point lies in the intersection just where it lies in both. -/
theorem inB_sect (p f1 g1 f2 g2 : Nat → Int) (n : Nat) (f g : Nat → Int) (hf : ∀ j, j < n → f j = mx (f1 j) (f2 j)) (hg : ∀ j, j < n → g j = mn (g1 j) (g2 j)) :
    inB p f g n = (inB p f1 g1 n && inB p f2 g2 n) := by
  rw [Bool.eq_iff_iff, Bool.and_eq_true, inB_iff, inB_iff, inB_iff]
  constructor
  · intro h
    constructor
    · intro j hj
      have := h j hj
      rw [hf j hj, hg j hj] at this
      unfold mx mn at this
      constructor
      · have := this.1; split at this <;> omega
      · have := this.2; split at this <;> omega
    · intro j hj
      have := h j hj
      rw [hf j hj, hg j hj] at this
      unfold mx mn at this
      constructor
      · have := this.1; split at this <;> omega
      · have := this.2; split at this <;> omega
  · intro h j hj
    have a := h.1 j hj
    have b := h.2 j hj
    rw [hf j hj, hg j hj]
    unfold mx mn
    constructor
    · split <;> omega
    · split <;> omega

set_option maxRecDepth 100000 in
set_option maxHeartbeats 1000000 in
theorem holds_any (g1 g2 n : Nat) (f g : Nat → Int) (a : Option Addr) (len cap : Nat) (zs : List Int) (r : Bool) (w : World) (hn : n ≤ len) (hm : len ≤ 1024) (hr : inB (fun j => zs.getD j 0) f g n = r)
    (i0 : IsRow .u64 w a len cap zs) (R1 : w.rowIs g1 27 n (fun j => .int .u64 (f j))) (R2 : w.rowIs g2 27 n (fun j => .int .u64 (g j))) :
    Calls Yba.prog 9 #[.agg #[.slice (some ⟨g1, 0, none⟩) n n, .slice (some ⟨g2, 0, none⟩) n n], .slice a len cap, .int .i64 n] w
      fun e w' => e = .returned (.bool r) ∧ Below w.heap.size w w' := by
  have HR : Hid (inB (fun j => zs.getD j 0) f g n = r) := hr
  clear hr
  have BA := below_alloc w (.cells #[.slice (some ⟨g1, 0, none⟩) n n, .slice (some ⟨g2, 0, none⟩) n n] 25)
  have kb := blk_alloc_new w (.cells #[.slice (some ⟨g1, 0, none⟩) n n, .slice (some ⟨g2, 0, none⟩) n n] 25)
  have T1 := rowIs_below R1 BA
  have T2 := rowIs_below R2 BA
  have j0 := i0.below BA
  clear R1 R2 i0
  go_enter Yba.func9, Yba.ntmps9
  go_wp2
  generalize w.alloc (.cells #[.slice (some ⟨g1, 0, none⟩) n n, .slice (some ⟨g2, 0, none⟩) n n] 25) = W at BA kb T1 T2 j0 ⊢
  have kb0 := cell_blk kb 0
  have kb1 := cell_blk kb 1
  simp at kb0 kb1
  clear kb
  go_loopw [7] (fun i wr => ∃ (k nq : Nat), k ≤ n ∧ i = .int .i64 k ∧ wr = W.drewN nq ∧ Hid (inB (fun j => zs.getD j 0) f g k = true)) (fun i _ => n - (intOf i).toNat)
  case atStart => exact ⟨0, 0, Nat.zero_le _, rfl, rfl, rfl⟩
  case round =>
    obtain ⟨k, nq, hk, rfl, rfl, HI⟩ := hrel
    by_cases hlt : k < n
    · obtain ⟨b0, o0, rfl, s0⟩ := j0.spot (Nat.lt_of_lt_of_le hlt hn)
      have x0 := s0 k (Nat.lt_of_lt_of_le hlt hn)
      have y1 := T1.cell hlt
      have y2 := T2.cell hlt
      have HE : Hid (inB (fun j => zs.getD j 0) f g (k + 1) = (inB (fun j => zs.getD j 0) f g k && (decide (f k ≤ zs.getD k 0) && decide (zs.getD k 0 ≤ g k)))) := rfl
      have HF : Hid (¬ (f k ≤ zs.getD k 0 ∧ zs.getD k 0 ≤ g k) → inB (fun j => zs.getD j 0) f g n = false) := fun h => inB_false hlt h
      generalize zs.getD k 0 = v0 at x0 HE HF
      generalize f k = v1 at y1 HE HF
      generalize g k = v2 at y2 HE HF
      clear j0 s0 T1 T2
      have hl0 : (k : Int) < (len : Int) := by omega
      have hln : (k : Int) < (n : Int) := by omega
      by_cases p : v0 < v1
      · have pd : decide (v0 < v1) = true := decide_eq_true p
        go_wp2_with fail
        go_quiet (fail)
        go_wp2
        go_ret
        refine ⟨?_, by first | exact below_drewN BA _ | exact below_drewN (below_drewN BA _) _⟩
        have h1 := HF.out (by omega)
        rw [HR.out] at h1
        rw [h1]; rfl
      · have pd : decide (v0 < v1) = false := decide_eq_false p
        by_cases q : v2 < v0
        · go_wp2_with fail
          go_quiet (fail)
          go_wp2
          go_ret
          refine ⟨?_, by first | exact below_drewN BA _ | exact below_drewN (below_drewN BA _) _⟩
          have h1 := HF.out (by omega)
          rw [HR.out] at h1
          rw [h1]; rfl
        · go_wp2_with fail
          go_quiet (fail)
          go_wp2
          go_roundw
          case rel => exact ⟨k + 1, _, by omega, by go_num, rfl, show _ = _ from by rw [HE.out, HI.out]; simp; omega⟩
          case measure => simp [intOf]; omega
    · obtain rfl : k = n := by omega
      go_wp2
      go_ret
      refine ⟨?_, below_drewN BA _⟩
      have h1 := HI.out
      rw [HR.out] at h1
      rw [h1]; rfl
end Go.Proofs.Ybulkexa
