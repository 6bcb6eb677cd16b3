/- 'node.LawS0286CAll': THE YIELD THAT GATHERS, and the plain facts on what it has gathered. -/
import Derived.Test.YbulkexaStop
namespace Go.Proofs.Ybulkexa
open Go.RowKit Go.Deep

/-- The cells of k records from record lo on. -/
def recCells (kb : Nat → Nat) (lo : Nat) : Nat → List Value
  | 0 => []
  | k + 1 => recCells kb lo k ++ [.pointer (some ⟨kb (lo + k), 0, none⟩), .slice none 0 0, .slice none 0 0, .slice none 0 0, .int .u64 ((lo + k : Nat) : Int)]
theorem recCells_length (kb : Nat → Nat) (lo : Nat) : ∀ k, (recCells kb lo k).length = k * 5
  | 0 => rfl
  | k + 1 => by simp [recCells, recCells_length kb lo k]; omega
theorem recCells_add (kb : Nat → Nat) (lo a : Nat) : ∀ b, recCells kb lo (a + b) = recCells kb lo a ++ recCells kb (lo + a) b
  | 0 => by simp [recCells]
  | b + 1 => by
    rw [← Nat.add_assoc, recCells, recCells_add kb lo a b, recCells, List.append_assoc, Nat.add_assoc]
/-- The j-th of them. -/
theorem recCells_at (kb : Nat → Nat) (lo : Nat) {j : Nat} : ∀ {k : Nat}, j < k → ∀ t u, t < 5 → [Value.pointer (some ⟨kb (lo + j), 0, none⟩), .slice none 0 0, .slice none 0 0, .slice none 0 0, .int .u64 ((lo + j : Nat) : Int)][t]? = some u → (recCells kb lo k)[j * 5 + t]? = some u
  | 0, h => by omega
  | k + 1, h => by
    intro t u ht hu
    have hl := recCells_length kb lo k
    simp only [recCells]
    by_cases e : j = k
    · subst e
      rw [List.getElem?_append_right (by omega), hl, show j * 5 + t - j * 5 = t from by omega]
      exact hu
    · rw [List.getElem?_append_left (by omega)]
      exact recCells_at kb lo (by omega) t u ht hu
theorem recCells_one (kb : Nat → Nat) (lo : Nat) : ∀ k, ∀ u ∈ recCells kb lo k, u.oneCell' = true
  | 0, u, h => by simp [recCells] at h
  | k + 1, u, h => by
    simp only [recCells, List.mem_append] at h
    rcases h with h | h
    · exact recCells_one kb lo k u h
    · simp at h
      rcases h with rfl | rfl | rfl <;> rfl

/-- They are what the records' row holds from lo on. -/
theorem recs_cells {W : World} {rg n : Nat} {kb : Nat → Nat} (h : ∀ j, j < n → RecAt W rg (j * 5) (kb j) j) (lo : Nat) : ∀ k, lo + k ≤ n → ∀ j u, (recCells kb lo k)[j]? = some u → W.cell? ⟨rg, lo * 5 + j, none⟩ = some u
  | 0, _, j, u, hj => by simp [recCells] at hj
  | k + 1, hk, j, u, hj => by
    have hl := recCells_length kb lo k
    simp only [recCells] at hj
    by_cases hlt : j < k * 5
    · rw [List.getElem?_append_left (by omega)] at hj
      exact recs_cells h lo k (by omega) j u hj
    · rw [List.getElem?_append_right (by omega), hl] at hj
      obtain ⟨t, rfl⟩ : ∃ t, j = k * 5 + t := ⟨j - k * 5, by omega⟩
      rw [show k * 5 + t - k * 5 = t from by omega] at hj
      have R := h (lo + k) (by omega)
      have e : lo * 5 + (k * 5 + t) = (lo + k) * 5 + t := by omega
      rw [e]
      match t, hj with
      | 0, hj => simp at hj; subst hj; exact R.c0
      | 1, hj => simp at hj; subst hj; exact R.c1
      | 2, hj => simp at hj; subst hj; exact R.c2
      | 3, hj => simp at hj; subst hj; exact R.c3
      | 4, hj => simp at hj; subst hj; have := R.c4; simpa using this
      | t + 5, hj => simp at hj

/-- How many records the stretches hold; their cells. -/
def tot : List (Nat × Nat) → Nat
  | [] => 0
  | p :: L => (p.2 - p.1) + tot L
def gotCells (kb : Nat → Nat) : List (Nat × Nat) → List Value
  | [] => []
  | p :: L => recCells kb p.1 (p.2 - p.1) ++ gotCells kb L
theorem tot_snoc (p : Nat × Nat) : ∀ L, tot (L ++ [p]) = tot L + (p.2 - p.1)
  | [] => by simp [tot]
  | q :: L => by simp only [List.cons_append, tot, tot_snoc p L]; omega
theorem gotCells_snoc (kb : Nat → Nat) (p : Nat × Nat) : ∀ L, gotCells kb (L ++ [p]) = gotCells kb L ++ recCells kb p.1 (p.2 - p.1)
  | [] => by simp [gotCells]
  | q :: L => by simp only [List.cons_append, gotCells, gotCells_snoc kb p L, List.append_assoc]

/-- Contiguous stretches hold all from their first place on. -/
theorem got_strs (kb : Nat → Nat) {s : Nat} {P : Nat → Nat} {i : Nat} : ∀ {k : Nat}, 1 ≤ k → s ≤ P (i + 1) → (∀ j, j < k → P (i + j) ≤ P (i + j + 1)) → tot (strs s P i k) = P (i + k) - s ∧ gotCells kb (strs s P i k) = recCells kb s (P (i + k) - s) ∧ s ≤ P (i + k)
  | 0, h, _, _ => by omega
  | 1, _, hs, _ => by
    simp [strs, tot, gotCells, hs]
  | k + 2, _, hs, hm => by
    obtain ⟨h1, h2, h3⟩ := got_strs kb (k := k + 1) (by omega) hs fun j hj => hm j (by omega)
    have hk := hm (k + 1) (by omega)
    have e : strs s P i (k + 2) = strs s P i (k + 1) ++ [(P (i + (k + 1)), P (i + (k + 1) + 1))] := by rw [strs, if_neg (by omega)]
    rw [e, tot_snoc, gotCells_snoc, h1, h2]
    have e2 : P (i + (k + 2)) - s = (P (i + (k + 1)) - s) + (P (i + (k + 1) + 1) - P (i + (k + 1))) := by
      rw [show i + (k + 2) = i + (k + 1) + 1 from by omega]; omega
    refine ⟨by rw [e2], ?_, ?_⟩
    · rw [e2, recCells_add, show s + (P (i + (k + 1)) - s) = P (i + (k + 1)) from by omega]
    · rw [show i + (k + 2) = i + (k + 1) + 1 from by omega]; omega

/-- What the gathering yield keeps. -/
def allI (W0 : World) (kb : Nat → Nat) (L : List (Nat × Nat)) (W : World) : Prop :=
  Below W0.heap.size W0 W ∧ W.heap[W0.heap.size]? = some (.cells #[.int .i64 (L.length : Int)] 3 (0, 0)) ∧ tot L ≤ 1024 * L.length ∧
  ∃ gv, W.heap[W0.heap.size + 1]? = some (.cells #[gv] 34 (0, 0)) ∧ W.ownsRow W0.heap.size 48 5 gv (tot L) (gotCells kb L)
def allR (_ : List (Nat × Nat)) : Bool := true

theorem slice_of_own {w : World} {base size n : Nat} {e : TypeId} {v : Value} {xs : List Value} (h : w.ownsRow base e size v n xs) : ∃ a l c, v = .slice a l c := by
  obtain ⟨_, ⟨rfl, _⟩ | ⟨g, cap, cur, rfl, _⟩⟩ := h
  · exact ⟨_, _, _, rfl⟩
  · exact ⟨_, _, _, rfl⟩
theorem own_len {w : World} {base size n l c : Nat} {e : TypeId} {a : Option Addr} {xs : List Value} (h : w.ownsRow base e size (.slice a l c) n xs) : l = n := by
  obtain ⟨_, ⟨h, h'⟩ | ⟨g, cap, cur, h, _⟩⟩ := h
  · cases h; omega
  · cases h; rfl
theorem own_base {w : World} {base size n : Nat} {e : TypeId} {v : Value} {xs : List Value} (h : w.ownsRow base e size v n xs) : ∀ k, v.ownBlock = some k → base ≤ k := by
  intro k hk
  obtain ⟨_, ⟨rfl, _⟩ | ⟨g, cap, cur, rfl, hg, _⟩⟩ := h
  · simp [Value.ownBlock] at hk
  · simp [Value.ownBlock] at hk; omega

theorem allI_start (W0 : World) (kb : Nat → Nat) : allI W0 kb [] ((W0.alloc (.cells #[.int .i64 0] 3)).alloc (.cells #[.slice none 0 0] 34)) :=
  ⟨((Below.refl _ _).alloc (Nat.le_refl _) _).alloc (by simp) _, (two_at W0 _ _).1, Nat.zero_le _, .slice none 0 0, (two_at W0 _ _).2, rfl, .inl ⟨rfl, rfl⟩⟩

set_option maxRecDepth 100000 in
set_option maxHeartbeats 400000 in
theorem all_yields (W0 : World) (n rg : Nat) (kb : Nat → Nat) (hR : ∀ j, j < n → RecAt W0 rg (j * 5) (kb j) j) :
    Yields W0 n rg 14 (.pointer (some ⟨W0.heap.size, 0, none⟩)) (.pointer (some ⟨W0.heap.size + 1, 0, none⟩)) (allI W0 kb) allR := by
  refine ⟨enters14, fun _ _ h => h.1, ?_, ?_⟩
  · rintro L W W' ⟨h1, h2, h3, gv, h4, h5⟩ hb
    exact ⟨below_up' h1 hb, kept_at h2 hb, h3, gv, kept_at h4 hb, ownsRow_keeps h5 (Keeps.of_below (e := 0) hb) (by decide)⟩
  rintro L lo hi ad c W ⟨h1, h2, h3, gv, h4, h5⟩ hlen hlo hhi had hc1 hc2
  obtain ⟨ga, gl, gc, rfl⟩ := slice_of_own h5
  have c0 := cell_at h2 0
  have f0 := free_at h2 0
  have c1 := cell_at h4 0
  have f1 := free_at h4 0
  simp at c0 c1
  have hl1 : (L.length : Int) ≤ 1024 := by omega
  have hl0 : (0 : Int) ≤ (L.length : Int) := by omega
  have HL : Hid (((L ++ [(lo, hi)]).length : Int) = (L.length : Int) + 1) := by show _ = _; simp
  have HT : Hid (tot (L ++ [(lo, hi)]) = tot L + (hi - lo)) := tot_snoc (lo, hi) L
  have HG : Hid (gotCells kb (L ++ [(lo, hi)]) = gotCells kb L ++ recCells kb lo (hi - lo)) := gotCells_snoc kb (lo, hi) L
  have HM : Hid (tot (L ++ [(lo, hi)]) ≤ 1024 * (L ++ [(lo, hi)]).length) := by show _ ≤ _; rw [tot_snoc]; simp; omega
  have htb : tot L ≤ 1048576 := by omega
  have H2 : Hid (W.heap[W0.heap.size]? = some (.cells #[.int .i64 (L.length : Int)] 3 (0, 0))) := h2
  have H4 : Hid (W.heap[W0.heap.size + 1]? = some (.cells #[.slice ga gl gc] 34 (0, 0))) := h4
  generalize (L.length : Int) = l at c0 HL hl1 hl0 H2
  -- the records' cells, in whatever later world
  have hcells : ∀ W1 : World, (∀ j, j < n → RecAt W1 rg (j * 5) (kb j) j) → ∀ j u, (recCells kb lo (hi - lo))[j]? = some u → W1.cell? (ad.add j) = some u := by
    intro W1 hR1 j u hj
    by_cases hlh : lo < hi
    · rw [had hlh, WideShapes.add_plain]
      exact recs_cells hR1 lo (hi - lo) (by omega) j u hj
    · rw [show hi - lo = 0 from by omega] at hj
      simp [recCells] at hj
  have hR1 : ∀ j, j < n → RecAt (W.setCell ⟨W0.heap.size, 0, none⟩ (.int .i64 (l + 1))) rg (j * 5) (kb j) j := fun j hj => (hR j hj).below (h1.setCell (p := ⟨W0.heap.size, 0, none⟩) (Nat.le_refl _) _)
  have K3 : Keeps 3 W (W.setCell ⟨W0.heap.size, 0, none⟩ (.int .i64 (l + 1))) := Keeps.set _ H2.out
  have h5' := ownsRow_keeps h5 K3 (by decide)
  have H4s : Hid ((W.setCell ⟨W0.heap.size, 0, none⟩ (.int .i64 (l + 1))).heap[W0.heap.size + 1]? = some (.cells #[.slice ga gl gc] 34 (0, 0))) := kept_keeps H4.out K3 (by decide)
  have H2s : Hid ((W.setCell ⟨W0.heap.size, 0, none⟩ (.int .i64 (l + 1))).heap[W0.heap.size]? = some (.cells #[.int .i64 (l + 1)] 3 (0, 0))) := one_setCell H2.out
  obtain ⟨i48, hi48, hz48, hs48, hb48⟩ := info_parts info48
  have hsz := h1.size
  have hne : ¬ (W0.heap.size + 1 = W0.heap.size) := by omega
  have hsz2 : W0.heap.size + 1 < W.heap.size := lt_at h4
  have B1 := h1.setCell (p := ⟨W0.heap.size, 0, none⟩) (Nat.le_refl _) (.int .i64 (l + 1))
  have rl := recCells_length kb lo (hi - lo)
  have ro := recCells_one kb lo (hi - lo)
  clear h1 h2 h3 h4 h5 hR
  go_enter Yba.func14, Yba.ntmps14
  go_wp2_with (at_builtin; refine wpList_append_own _ rfl (.tmp 7) (.tmp 8) 34 rfl W0.heap.size 48 i48 _ 5 88 Yba.underlying34 hi48 hz48 hs48 hb48 rfl (by decide) (.slice ga gl gc) (tot L) (gotCells kb L) rfl h5' ad (hi - lo) c (recCells kb lo (hi - lo)) rfl rl ?_ ro ?_ ?_ ?_ ?_; exact hcells _ hR1; (unfold maxLen; omega); omega; (simp; omega); intro v' w1 ho hg _; obtain ⟨a', l', c', hv'⟩ := slice_of_own ho; subst hv'; have kg := Keeps.grown h5' hg; have b1 := kept_keeps H4s.out kg (by decide); have q1 := (cell_at b1 0).trans (show #[Value.slice ga gl gc][0]? = some (.slice ga gl gc) from rfl); have q2 := free_at b1 0)
  go_ret
  have K34 : Keeps 34 w1 (w1.setCell ⟨W0.heap.size + 1, 0, none⟩ (.slice a' l' c')) := Keeps.set _ b1
  refine ⟨rfl, (B1.grown hg (by simp; omega) (own_base h5')).setCell (p := ⟨W0.heap.size + 1, 0, none⟩) (by simp only; omega) _, ?_, HM.out, .slice a' l' c', one_setCell b1, ?_⟩
  · rw [HL.out]
    exact kept_keeps (kept_keeps H2s.out kg (by decide)) K34 (by decide)
  · rw [HT.out, HG.out]
    exact ownsRow_keeps ho K34 (by decide)
end Go.Proofs.Ybulkexa
