/- PLAIN FACTS ON MEMORY for the walk of 'node.zzs0286cbuild': blocks that are not of one type stay as they were. -/
import Derived.Test.YbulkexaRoot
namespace Go.Proofs.Ybulkexa
open Go.RowKit Go.Deep

/-- Every block of cells whose element type is not e is as it was. -/
def Keeps (e : TypeId) (w w' : World) : Prop := ∀ (k : Nat) (c : Array Value) (t : TypeId) (fz : Nat × Nat), t ≠ e → w.heap[k]? = some (.cells c t fz) → w'.heap[k]? = some (.cells c t fz)

theorem Keeps.of_below {e : TypeId} {w w' : World} (h : Below w.heap.size w w') : Keeps e w w' := fun _ _ _ _ _ hk => kept_at hk h
theorem Keeps.trans {e : TypeId} {w w1 w2 : World} (h : Keeps e w w1) (k : Keeps e w1 w2) : Keeps e w w2 := fun i c t fz ht hi => k i c t fz ht (h i c t fz ht hi)
theorem Keeps.set {e : TypeId} {w : World} {g o : Nat} {c : Array Value} {fz : Nat × Nat} (v : Value) (h : w.heap[g]? = some (.cells c e fz)) : Keeps e w (w.setCell ⟨g, o, none⟩ v) := by
  intro k c' t fz' ht hk
  by_cases hg : k = g
  · subst hg
    rw [h] at hk
    cases hk
    exact absurd rfl ht
  · rw [blk_setCell_other _ _ _ _ hg]; exact hk
theorem Keeps.grown {e : TypeId} {w w' : World} {base size n : Nat} {v : Value} {xs : List Value} (ho : w.ownsRow base e size v n xs) (h : w.grownBy w' v.ownBlock) : Keeps e w w' := by
  intro k c t fz ht hk
  have hlt := lt_at hk
  by_cases hr : some k = v.ownBlock
  · obtain ⟨_, ⟨rfl, _⟩ | ⟨g, cap, cur, rfl, _, hg, _⟩⟩ := ho
    · simp [Value.ownBlock] at hr
    · simp [Value.ownBlock] at hr
      subst hr
      rw [hg] at hk
      cases hk
      exact absurd rfl ht
  · exact (h.block k hlt hr).trans hk

theorem BigIs.keeps {e : TypeId} {w w' : World} {b : Nat} {x : Int} (h : BigIs w b x) (k : Keeps e w w') (h1 : 62 ≠ e) (h2 : 59 ≠ e) : BigIs w' b x := by
  rcases h with ⟨a, h⟩ | ⟨a, c, h, h'⟩
  · exact .inl ⟨a, k _ _ _ _ h1 h⟩
  · exact .inr ⟨a, c, k _ _ _ _ h1 h, k _ _ _ _ h2 h'⟩
theorem LeafAt.keeps {e : TypeId} {w w' : World} {nd rg lo hi C : Nat} (h : LeafAt w nd rg lo hi C) (k : Keeps e w w') (h1 : 54 ≠ e) : LeafAt w' nd rg lo hi C := k _ _ _ _ h1 h
theorem rowIs_keeps {e t : TypeId} {w w' : World} {b n : Nat} {f : Nat → Value} (h : w.rowIs b t n f) (k : Keeps e w w') (h1 : t ≠ e) : w'.rowIs b t n f := by
  obtain ⟨c, hb, hn, hc⟩ := h
  exact ⟨c, k _ _ _ _ h1 hb, hn, hc⟩
theorem ownsRow_keeps {e t : TypeId} {w w' : World} {base size n : Nat} {v : Value} {xs : List Value} (h : w.ownsRow base t size v n xs) (k : Keeps e w w') (h1 : t ≠ e) : w'.ownsRow base t size v n xs := by
  obtain ⟨h0, h | ⟨g, cap, cur, a, b, hg, c⟩⟩ := h
  · exact ⟨h0, .inl h⟩
  · exact ⟨h0, .inr ⟨g, cap, cur, a, b, k _ _ _ _ h1 hg, c⟩⟩
theorem kept_keeps {e t : TypeId} {w w' : World} {b : Nat} {c : Array Value} {fz : Nat × Nat} (h : w.heap[b]? = some (.cells c t fz)) (k : Keeps e w w') (h1 : t ≠ e) : w'.heap[b]? = some (.cells c t fz) := k _ _ _ _ h1 h

/-! ### The records' row -/
def RecF (f : Nat → Value) (j b : Nat) (s : Int) : Prop := f (j * 5) = .pointer (some ⟨b, 0, none⟩) ∧ f (j * 5 + 1) = .slice none 0 0 ∧ f (j * 5 + 2) = .slice none 0 0 ∧ f (j * 5 + 3) = .slice none 0 0 ∧ f (j * 5 + 4) = .int .u64 s
/-- The first k of n records of the row rg: record j has the key that block kb j holds, and the stamp j. -/
def Recs (w : World) (rg n : Nat) (kb : Nat → Nat) (k : Nat) : Prop := ∃ f, w.rowIs rg 48 (n * 5) f ∧ ∀ j, j < k → RecF f j (kb j) j

theorem Recs.at {w : World} {rg n k : Nat} {kb : Nat → Nat} (h : Recs w rg n kb k) (hk : k ≤ n) {j : Nat} (hj : j < k) : RecAt w rg (j * 5) (kb j) j := by
  obtain ⟨f, hr, hf⟩ := h
  obtain ⟨a0, a1, a2, a3, a4⟩ := hf j hj
  exact ⟨by rw [hr.cell (by omega), a0], by rw [hr.cell (by omega), a1], by rw [hr.cell (by omega), a2], by rw [hr.cell (by omega), a3], by rw [hr.cell (by omega), a4]⟩
theorem Recs.keeps {e : TypeId} {w w' : World} {rg n k : Nat} {kb : Nat → Nat} (h : Recs w rg n kb k) (kp : Keeps e w w') (h1 : 48 ≠ e) : Recs w' rg n kb k := by
  obtain ⟨f, hr, hf⟩ := h
  exact ⟨f, rowIs_keeps hr kp h1, hf⟩
/-- A map changed at one place. -/
def upd (f : Nat → Nat) (k b : Nat) : Nat → Nat := fun j => if j = k then b else f j
theorem upd_same (f : Nat → Nat) (k b : Nat) : upd f k b k = b := by simp [upd]
theorem upd_lt (f : Nat → Nat) {k b j : Nat} (h : j < k) : upd f k b j = f j := by simp [upd]; omega

/-- The five cells of a record stored. -/
theorem Recs.store {w : World} {rg n k b : Nat} {kb : Nat → Nat} (h : Recs w rg n kb k) :
    Recs (((((w.setCell ⟨rg, k * 5, none⟩ (.pointer (some ⟨b, 0, none⟩))).setCell ⟨rg, k * 5 + 1, none⟩ (.slice none 0 0)).setCell ⟨rg, k * 5 + 2, none⟩ (.slice none 0 0)).setCell ⟨rg, k * 5 + 3, none⟩ (.slice none 0 0)).setCell ⟨rg, k * 5 + 4, none⟩ (.int .u64 k)) rg n (upd kb k b) (k + 1) := by
  obtain ⟨f, hr, hf⟩ := h
  refine ⟨_, ((((hr.set (k * 5) _).set (k * 5 + 1) _).set (k * 5 + 2) _).set (k * 5 + 3) _).set (k * 5 + 4) _, fun j hj => ?_⟩
  by_cases e : j = k
  · subst e
    rw [upd_same]
    refine ⟨?_, ?_, ?_, ?_, ?_⟩ <;> simp
  · rw [upd_lt kb (by omega)]
    obtain ⟨a0, a1, a2, a3, a4⟩ := hf j (by omega)
    have ne : ∀ s t, s < 5 → t < 5 → ¬ (j * 5 + s = k * 5 + t) := fun s t h1 h2 => by omega
    refine ⟨?_, ?_, ?_, ?_, ?_⟩
    · have := ne 0; simp only [Nat.add_zero] at this
      simp only [if_neg (this 4 (by omega) (by omega)), if_neg (this 3 (by omega) (by omega)), if_neg (this 2 (by omega) (by omega)), if_neg (this 1 (by omega) (by omega)), if_neg (show ¬ j * 5 = k * 5 by omega)]
      exact a0
    · have := ne 1
      simp only [if_neg (this 4 (by omega) (by omega)), if_neg (this 3 (by omega) (by omega)), if_neg (this 2 (by omega) (by omega)), if_neg (this 1 (by omega) (by omega)), if_neg (show ¬ j * 5 + 1 = k * 5 by omega)]
      exact a1
    · have := ne 2
      simp only [if_neg (this 4 (by omega) (by omega)), if_neg (this 3 (by omega) (by omega)), if_neg (this 2 (by omega) (by omega)), if_neg (this 1 (by omega) (by omega)), if_neg (show ¬ j * 5 + 2 = k * 5 by omega)]
      exact a2
    · have := ne 3
      simp only [if_neg (this 4 (by omega) (by omega)), if_neg (this 3 (by omega) (by omega)), if_neg (this 2 (by omega) (by omega)), if_neg (this 1 (by omega) (by omega)), if_neg (show ¬ j * 5 + 3 = k * 5 by omega)]
      exact a3
    · have := ne 4
      simp only [if_neg (this 4 (by omega) (by omega)), if_neg (this 3 (by omega) (by omega)), if_neg (this 2 (by omega) (by omega)), if_neg (this 1 (by omega) (by omega)), if_neg (show ¬ j * 5 + 4 = k * 5 by omega)]
      exact a4
theorem Keeps.store {w : World} {rg k : Nat} {c : Array Value} {v0 v1 v2 v3 v4 : Value} (h : w.heap[rg]? = some (.cells c 48 (0, 0))) :
    Keeps 48 w (((((w.setCell ⟨rg, k * 5, none⟩ v0).setCell ⟨rg, k * 5 + 1, none⟩ v1).setCell ⟨rg, k * 5 + 2, none⟩ v2).setCell ⟨rg, k * 5 + 3, none⟩ v3).setCell ⟨rg, k * 5 + 4, none⟩ v4) := by
  have s : ∀ {w : World} {c : Array Value} (o : Nat) (v : Value), w.heap[rg]? = some (.cells c 48 (0, 0)) → ∃ c', (w.setCell ⟨rg, o, none⟩ v).heap[rg]? = some (.cells c' 48 (0, 0)) := fun o v hh => ⟨_, heap_setCell_same _ _ _ _ _ _ hh⟩
  obtain ⟨d0, e0⟩ := s (k * 5) v0 h
  obtain ⟨d1, e1⟩ := s (k * 5 + 1) v1 e0
  obtain ⟨d2, e2⟩ := s (k * 5 + 2) v2 e1
  obtain ⟨d3, e3⟩ := s (k * 5 + 3) v3 e2
  exact ((((Keeps.set v0 h).trans (Keeps.set v1 e0)).trans (Keeps.set v2 e1)).trans (Keeps.set v3 e2)).trans (Keeps.set v4 e3)

/-! ### The keys -/
def cum (zs : List Int) : Nat → Int
  | 0 => 0
  | k + 1 => cum zs k + (zs.getD k 0 + 1)
theorem cum_bounds {zs : List Int} (h : ∀ j, 0 ≤ zs.getD j 0 ∧ zs.getD j 0 ≤ 255) : ∀ k, 0 ≤ cum zs k ∧ cum zs k ≤ 256 * k
  | 0 => ⟨Int.le_refl _, by simp [cum]⟩
  | k + 1 => by have := cum_bounds h k; have := h k; simp only [cum]; omega
theorem cum_mono {zs : List Int} (h : ∀ j, 0 ≤ zs.getD j 0 ∧ zs.getD j 0 ≤ 255) : ∀ a b, a ≤ b → cum zs a ≤ cum zs b
  | a, 0, h1 => by obtain rfl : a = 0 := by omega
                   exact Int.le_refl _
  | a, b + 1, h1 => by
    by_cases e : a = b + 1
    · rw [e]; exact Int.le_refl _
    · have := cum_mono h a b (by omega); have := h b; simp only [cum]; omega
end Go.Proofs.Ybulkexa
