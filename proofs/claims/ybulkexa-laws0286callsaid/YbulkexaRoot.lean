/- '(*node.tnode).from' at an inner node over leaves, over whatever yield keeps its word. -/
import Derived.Test.YbulkexaFrom
namespace Go.Proofs.Ybulkexa
open Go.RowKit Go.Deep

/-- An inner node over m leaves: child j holds the records from P j to P (j + 1). -/
structure RootAt (W : World) (t kg m kc n rg : Nat) (kb nd P : Nat → Nat) : Prop where
  node : W.heap[t]? = some (.cells #[.slice none 0 0, .slice (some ⟨kg, 0, none⟩) m kc] 54 (0, 0))
  pos : 1 ≤ m
  room : m ≤ kc
  cap : kc ≤ 9223372036854775807
  few : m ≤ 1024
  kid : ∀ j, j < m → KidAt W kg (j * 2) (kb (P j)) (nd j)
  leaf : ∀ j, j < m → LeafAt W (nd j) rg (P j) (P (j + 1)) (n - P j)
  lt : ∀ j, j < m → P j < P (j + 1)
  le : ∀ j, j < m → P (j + 1) ≤ n
  small : n ≤ 1024

/-- The first k stretches that are handed out from child i on, the first of them cut at s. -/
def strs (s : Nat) (P : Nat → Nat) (i : Nat) : Nat → List (Nat × Nat)
  | 0 => []
  | k + 1 => strs s P i k ++ [((if k = 0 then s else P (i + k)), P (i + k + 1))]

theorem strs_length (s : Nat) (P : Nat → Nat) (i : Nat) : ∀ k, (strs s P i k).length = k
  | 0 => rfl
  | k + 1 => by rw [strs, List.length_append, strs_length s P i k]; rfl

/-- How the walk over the children ends. -/
def Ends (rt : List (Nat × Nat) → Bool) (I : List (Nat × Nat) → World → Prop) (s : Nat) (P : Nat → Nat) (i m : Nat) (b : Bool) (W : World) : Prop :=
  ∃ k, k ≤ m - i ∧ I (strs s P i k) W ∧ ((b = true ∧ k = m - i ∧ ∀ j, 1 ≤ j → j ≤ k → rt (strs s P i j) = true) ∨ (b = false ∧ 1 ≤ k ∧ rt (strs s P i k) = false ∧ ∀ j, 1 ≤ j → j < k → rt (strs s P i j) = true))
/-- Behind k rounds. -/
def Going (rt : List (Nat × Nat) → Bool) (I : List (Nat × Nat) → World → Prop) (s : Nat) (P : Nat → Nat) (i m k : Nat) (W : World) : Prop :=
  k ≤ m - i ∧ I (strs s P i k) W ∧ ∀ j, 1 ≤ j → j ≤ k → rt (strs s P i j) = true

theorem Going.next {rt : List (Nat × Nat) → Bool} {I : List (Nat × Nat) → World → Prop} {s : Nat} {P : Nat → Nat} {i m k : Nat} {W W' : World} (h : Going rt I s P i m k W) (hk : k < m - i) (hI : I (strs s P i (k + 1)) W') (hr : rt (strs s P i (k + 1)) = true) : Going rt I s P i m (k + 1) W' :=
  ⟨hk, hI, fun j h1 h2 => by
    by_cases e : j = k + 1
    · rw [e]; exact hr
    · exact h.2.2 j h1 (by omega)⟩
theorem Going.stop {rt : List (Nat × Nat) → Bool} {I : List (Nat × Nat) → World → Prop} {s : Nat} {P : Nat → Nat} {i m k : Nat} {W W' : World} (h : Going rt I s P i m k W) (hk : k < m - i) (hI : I (strs s P i (k + 1)) W') (hr : rt (strs s P i (k + 1)) = false) : Ends rt I s P i m false W' :=
  ⟨k + 1, hk, hI, .inr ⟨rfl, by omega, hr, fun j h1 h2 => h.2.2 j h1 (by omega)⟩⟩
theorem Going.done {rt : List (Nat × Nat) → Bool} {I : List (Nat × Nat) → World → Prop} {s : Nat} {P : Nat → Nat} {i m : Nat} {W : World} (h : Going rt I s P i m (m - i) W) : Ends rt I s P i m true W :=
  ⟨m - i, Nat.le_refl _, h.2.1, .inl ⟨rfl, rfl, h.2.2⟩⟩

set_option maxRecDepth 100000 in
set_option maxHeartbeats 1000000 in
theorem root_all {W0 : World} {n rg fY : Nat} {c1 c2 : Value} {I : List (Nat × Nat) → World → Prop} {rt : List (Nat × Nat) → Bool} (Y : Yields W0 n rg fY c1 c2 I rt) (t kg m kc : Nat) (kb nd P : Nat → Nat) (W : World) (hI : I [] W) (R : RootAt W0 t kg m kc n rg kb nd P) :
    Calls Yba.prog 13 #[.pointer (some ⟨t, 0, none⟩), .pointer none, .func (.func fY) #[] #[c1, c2]] W fun e w' => ∃ b, e = .returned (.bool b) ∧ Ends rt I (P 0) P 0 m b w' := by
  obtain ⟨s0, hs0⟩ : ∃ s0, s0 = P 0 := ⟨_, rfl⟩
  rw [← hs0]
  have hpos := R.pos
  have hfew := R.few
  have hkk := kept_at R.node (Y.below _ _ hI)
  have k0 := cell_at hkk 0
  have k1 := cell_at hkk 1
  simp at k0 k1
  clear hkk k0
  have HL0 : ∀ W1, I (strs s0 P 0 0) W1 → Calls Yba.prog 13 #[.pointer (some ⟨nd (0 + 0), 0, none⟩), .pointer none, .func (.func fY) #[] #[c1, c2]] W1 fun e w' => e = .returned (.bool (rt (strs s0 P 0 (0 + 1)))) ∧ I (strs s0 P 0 (0 + 1)) w' := by
    intro W1 hI2
    have e1 : strs s0 P 0 (0 + 1) = strs s0 P 0 0 ++ [(P 0, P (0 + 1))] := by simp [strs, hs0]
    rw [e1]
    have hj : 0 < m := hpos
    exact leaf_all Y (nd 0) (P 0) (P (0 + 1)) (n - P 0) _ W1 hI2 (by rw [strs_length]; have := R.few; omega) (R.leaf _ hj) (Nat.le_of_lt (R.lt _ hj)) (R.le _ hj) (by have := R.le _ hj; have := R.lt _ hj; omega) (by have := R.small; omega)
  have HH : Hid (∀ W1, I (strs s0 P 0 0) W1 → Calls Yba.prog 13 #[.pointer (some ⟨nd (0 + 0), 0, none⟩), .pointer none, .func (.func fY) #[] #[c1, c2]] W1 fun e w' => e = .returned (.bool (rt (strs s0 P 0 (0 + 1)))) ∧ I (strs s0 P 0 (0 + 1)) w') := HL0
  clear HL0 hs0
  have hnil := fun (W : World) (a : Option Addr) (n c : Nat) => Lib.run_eql_slice_nil (P := Yba.prog) W 52 56 a n c 0 0 Yba.underlying52
  go_enter Yba.func13, Yba.ntmps13
  go_wp2
  clear hnil
  have HL0 := HH.out
  have hI1 := hI
  have hgo : Going rt I s0 P 0 m 0 W := ⟨Nat.zero_le _, hI1, fun j h1 h2 => by omega⟩
  go_loopw [1, 56] (fun f x wr => ∃ k : Nat, Going rt I s0 P 0 m k wr ∧ x = .int .i64 k ∧ ((k = 0 ∧ f = .pointer none) ∨ (0 < k ∧ f = .pointer none))) (fun _ x _ => (m - 0) - (intOf x).toNat)
  case atStart => exact ⟨0, hgo, rfl, .inl ⟨rfl, rfl⟩⟩
  case round =>
    obtain ⟨k, G, rfl, hf⟩ := hrel
    have hkm := G.1
    by_cases hlt : k < m - 0
    · have hB := Y.below _ _ G.2.1
      have hj : 0 + k < m := by omega
      obtain ⟨p0, p1⟩ := (R.kid (0 + k) hj).below hB
      have e0 : (0 + k) * 2 = k * 2 := by omega
      rw [e0] at p0 p1
      clear e0
      have hki : (k : Int) < ((m - 0 : Nat) : Int) := by omega
      have hcall : ∀ (fv : Value) (W1 : World), ((k = 0 ∧ fv = .pointer none) ∨ (0 < k ∧ fv = .pointer none)) → I (strs s0 P 0 k) W1 → Calls Yba.prog 13 #[.pointer (some ⟨nd (0 + k), 0, none⟩), fv, .func (.func fY) #[] #[c1, c2]] W1 fun e w' => e = .returned (.bool (rt (strs s0 P 0 (k + 1)))) ∧ I (strs s0 P 0 (k + 1)) w' := by
        intro fv W1 hfv hI2
        rcases hfv with ⟨rfl, rfl⟩ | ⟨h0, rfl⟩
        · exact HL0 W1 hI2
        · have e1 : strs s0 P 0 (k + 1) = strs s0 P 0 k ++ [(P (0 + k), P (0 + k + 1))] := by rw [strs, if_neg (by omega)]
          rw [e1]
          exact leaf_all Y (nd (0 + k)) (P (0 + k)) (P (0 + k + 1)) (n - P (0 + k)) _ W1 hI2 (by rw [strs_length]; have := R.few; omega) (R.leaf _ hj) (Nat.le_of_lt (R.lt _ hj)) (R.le _ hj) (by have := R.le _ hj; have := R.lt _ hj; omega) (by have := R.small; omega)
      generalize nd (0 + k) = d at p1 hcall
      generalize kb (P (0 + k)) = d0 at p0
      have HG : Hid (Going rt I s0 P 0 m k wr) := G
      have HK : Hid (∀ (fv : Value) (W1 : World), ((k = 0 ∧ fv = .pointer none) ∨ (0 < k ∧ fv = .pointer none)) → I (strs s0 P 0 k) W1 → Calls Yba.prog 13 #[.pointer (some ⟨d, 0, none⟩), fv, .func (.func fY) #[] #[c1, c2]] W1 fun e w' => e = .returned (.bool (rt (strs s0 P 0 (k + 1)))) ∧ I (strs s0 P 0 (k + 1)) w') := hcall
      have HF : Hid ((k = 0 ∧ u1 = .pointer none) ∨ (0 < k ∧ u1 = .pointer none)) := hf
      clear hcall G hf
      go_wp2_with fail
      refine (HK.out _ _ HF.out (Y.grow _ _ _ HG.out.2.1 ?_)).mono ?_
      · exact (Below.refl _ _).alloc (Nat.le_refl _) _
      rintro e w1 ⟨rfl, hI2⟩
      clear HK
      cases hrt : rt (strs s0 P 0 (k + 1)) with
      | true =>
        have GN := HG.out.next hlt hI2 hrt
        clear HG hrt
        go_wp2
        go_roundw
        case rel => exact ⟨k + 1, GN, by go_num, .inr ⟨by omega, rfl⟩⟩
        case measure => simp [intOf]; omega
      | false =>
        have GE := HG.out.stop hlt hI2 hrt
        clear HG hrt
        go_wp2
        go_ret
        exact ⟨false, rfl, GE⟩
    · obtain rfl : k = m - 0 := by omega
      have GE := G.done
      clear G hf
      go_wp2
      go_ret
      exact ⟨true, rfl, GE⟩
theorem P_mono {P : Nat → Nat} {m : Nat} (h : ∀ j, j < m → P j < P (j + 1)) : ∀ a b, a ≤ b → b ≤ m → P a ≤ P b
  | a, 0, h1, _ => by obtain rfl : a = 0 := by omega
                      exact Nat.le_refl _
  | a, b + 1, h1, h2 => by
    by_cases e : a = b + 1
    · rw [e]; exact Nat.le_refl _
    · have := P_mono h a b (by omega) (by omega)
      have := h b (by omega)
      omega

set_option maxRecDepth 100000 in
set_option maxHeartbeats 1000000 in
theorem root_some {W0 : World} {n rg fY : Nat} {c1 c2 : Value} {I : List (Nat × Nat) → World → Prop} {rt : List (Nat × Nat) → Bool} (Y : Yields W0 n rg fY c1 c2 I rt) (t kg m kc q r s : Nat) (kb nd P : Nat → Nat) (S X : Nat → Int) (y : Int) (W : World) (hI : I [] W) (R : RootAt W0 t kg m kc n rg kb nd P)
    (hm : ∀ s t, s ≤ t → t < n → X s ≤ X t) (hc : ∀ j, j < n → RecAt W0 rg (j * 5) (kb j) (S j)) (hk : ∀ j, j < n → BigIs W0 (kb j) (X j)) (hq : BigIs W0 q y)
    (hr : LowB (fun j => X (P j)) m y r) (hs : LowB (fun j => X (P (r - 1) + j)) (P (r - 1 + 1) - P (r - 1)) y s) :
    Calls Yba.prog 13 #[.pointer (some ⟨t, 0, none⟩), .pointer (some ⟨q, 0, none⟩), .func (.func fY) #[] #[c1, c2]] W fun e w' => ∃ b, e = .returned (.bool b) ∧ Ends rt I (P (r - 1) + s) P (r - 1) m b w' := by
  have hpos := R.pos
  have hfew := R.few
  have hroom := R.room
  have hcap := R.cap
  have hrm := hr.1
  have hB := Y.below _ _ hI
  have hkk := kept_at R.node hB
  have k0 := cell_at hkk 0
  have k1 := cell_at hkk 1
  simp at k0 k1
  clear hkk k0
  have pn : ∀ j, j < m → P j < n := fun j hj => by have := R.lt j hj; have := R.le j hj; omega
  have hF := find_child kg 0 m kc q (fun j => kb (P j)) (fun j => X (P j)) nd y W hfew (fun a b h1 h2 => hm _ _ (P_mono R.lt a b h1 (by omega)) (pn b h2))
    (fun j hj => by rw [Nat.zero_add]; exact (R.kid j hj).below hB) (fun j hj => (hk (P j) (pn j hj)).below hB) (hq.below hB)
  have HR : Hid (LowB (fun j => X (P j)) m y r) := hr
  have hnil := fun (W : World) (a : Option Addr) (n c : Nat) => Lib.run_eql_slice_nil (P := Yba.prog) W 52 56 a n c 0 0 Yba.underlying52
  cases r with
  | zero =>
    simp only [Nat.zero_sub] at hs ⊢
    obtain ⟨s0, hs0⟩ : ∃ s0, s0 = P 0 + s := ⟨_, rfl⟩
    have HL0 : ∀ W1, I (strs s0 P 0 0) W1 → Calls Yba.prog 13 #[.pointer (some ⟨nd (0 + 0), 0, none⟩), .pointer (some ⟨q, 0, none⟩), .func (.func fY) #[] #[c1, c2]] W1 fun e w' => e = .returned (.bool (rt (strs s0 P 0 (0 + 1)))) ∧ I (strs s0 P 0 (0 + 1)) w' := by
      intro W1 hI2
      have e1 : strs s0 P 0 (0 + 1) = strs s0 P 0 0 ++ [(P 0 + s, P (0 + 1))] := by simp [strs, hs0]
      rw [e1]
      have hj : 0 < m := by omega
      exact leaf_some Y (nd 0) (P 0) (P (0 + 1)) (n - P 0) q s kb S X y _ W1 hI2 (by rw [strs_length]; have := R.few; omega) (R.leaf _ hj) (Nat.le_of_lt (R.lt _ hj)) (R.le _ hj) (by have := R.le _ hj; have := R.lt _ hj; omega) (by have := R.small; omega) hm hc hk hq hs
    have HH : Hid (∀ W1, I (strs s0 P 0 0) W1 → Calls Yba.prog 13 #[.pointer (some ⟨nd (0 + 0), 0, none⟩), .pointer (some ⟨q, 0, none⟩), .func (.func fY) #[] #[c1, c2]] W1 fun e w' => e = .returned (.bool (rt (strs s0 P 0 (0 + 1)))) ∧ I (strs s0 P 0 (0 + 1)) w') := HL0
    clear HL0 hm hc hk hq hs hr 
    rw [← hs0]
    clear hs0
    go_enter Yba.func13, Yba.ntmps13
    go_wp2_with fail
    refine hF.mono ?_
    rintro e w1 ⟨r', f, rfl, hr', hB1⟩
    obtain rfl := lowB_unique hr' HR.out
    clear hF HR hr' hB
    have hI1 := Y.grow _ _ _ hI hB1
    have k1 := (hB1.cell (p := ⟨t, 1, none⟩) (World.block_lt_of_cell? _ _ k1)).trans k1
    clear hB1
    go_wp2_with fail
    clear hnil
    have HL0 := HH.out
    have hgo : Going rt I s0 P 0 m 0 w1 := ⟨Nat.zero_le _, hI1, fun j h1 h2 => by omega⟩
    go_loopw [1, 56] (fun f x wr => ∃ k : Nat, Going rt I s0 P 0 m k wr ∧ x = .int .i64 k ∧ ((k = 0 ∧ f = .pointer (some ⟨q, 0, none⟩)) ∨ (0 < k ∧ f = .pointer none))) (fun _ x _ => (m - 0) - (intOf x).toNat)
    case atStart => exact ⟨0, hgo, rfl, .inl ⟨rfl, rfl⟩⟩
    case round =>
      obtain ⟨k, G, rfl, hf⟩ := hrel
      have hkm := G.1
      by_cases hlt : k < m - 0
      · have hB := Y.below _ _ G.2.1
        have hj : 0 + k < m := by omega
        obtain ⟨p0, p1⟩ := (R.kid (0 + k) hj).below hB
        have e0 : (0 + k) * 2 = k * 2 := by omega
        rw [e0] at p0 p1
        clear e0
        have hki : (k : Int) < ((m - 0 : Nat) : Int) := by omega
        have hcall : ∀ (fv : Value) (W1 : World), ((k = 0 ∧ fv = .pointer (some ⟨q, 0, none⟩)) ∨ (0 < k ∧ fv = .pointer none)) → I (strs s0 P 0 k) W1 → Calls Yba.prog 13 #[.pointer (some ⟨nd (0 + k), 0, none⟩), fv, .func (.func fY) #[] #[c1, c2]] W1 fun e w' => e = .returned (.bool (rt (strs s0 P 0 (k + 1)))) ∧ I (strs s0 P 0 (k + 1)) w' := by
          intro fv W1 hfv hI2
          rcases hfv with ⟨rfl, rfl⟩ | ⟨h0, rfl⟩
          · exact HL0 W1 hI2
          · have e1 : strs s0 P 0 (k + 1) = strs s0 P 0 k ++ [(P (0 + k), P (0 + k + 1))] := by rw [strs, if_neg (by omega)]
            rw [e1]
            exact leaf_all Y (nd (0 + k)) (P (0 + k)) (P (0 + k + 1)) (n - P (0 + k)) _ W1 hI2 (by rw [strs_length]; have := R.few; omega) (R.leaf _ hj) (Nat.le_of_lt (R.lt _ hj)) (R.le _ hj) (by have := R.le _ hj; have := R.lt _ hj; omega) (by have := R.small; omega)
        generalize nd (0 + k) = d at p1 hcall
        generalize kb (P (0 + k)) = d0 at p0
        have HG : Hid (Going rt I s0 P 0 m k wr) := G
        have HK : Hid (∀ (fv : Value) (W1 : World), ((k = 0 ∧ fv = .pointer (some ⟨q, 0, none⟩)) ∨ (0 < k ∧ fv = .pointer none)) → I (strs s0 P 0 k) W1 → Calls Yba.prog 13 #[.pointer (some ⟨d, 0, none⟩), fv, .func (.func fY) #[] #[c1, c2]] W1 fun e w' => e = .returned (.bool (rt (strs s0 P 0 (k + 1)))) ∧ I (strs s0 P 0 (k + 1)) w') := hcall
        have HF : Hid ((k = 0 ∧ u1 = .pointer (some ⟨q, 0, none⟩)) ∨ (0 < k ∧ u1 = .pointer none)) := hf
        clear hcall G hf
        go_wp2_with fail
        refine (HK.out _ _ HF.out (Y.grow _ _ _ HG.out.2.1 ?_)).mono ?_
        · exact (Below.refl _ _).alloc (Nat.le_refl _) _
        rintro e w1 ⟨rfl, hI2⟩
        clear HK
        cases hrt : rt (strs s0 P 0 (k + 1)) with
        | true =>
          have GN := HG.out.next hlt hI2 hrt
          clear HG hrt
          go_wp2
          go_roundw
          case rel => exact ⟨k + 1, GN, by go_num, .inr ⟨by omega, rfl⟩⟩
          case measure => simp [intOf]; omega
        | false =>
          have GE := HG.out.stop hlt hI2 hrt
          clear HG hrt
          go_wp2
          go_ret
          exact ⟨false, rfl, GE⟩
      · obtain rfl : k = m - 0 := by omega
        have GE := G.done
        clear G hf
        go_wp2
        go_ret
        exact ⟨true, rfl, GE⟩
  | succ i0 =>
    simp only [Nat.add_sub_cancel] at hs ⊢
    obtain ⟨s0, hs0⟩ : ∃ s0, s0 = P i0 + s := ⟨_, rfl⟩
    have HL0 : ∀ W1, I (strs s0 P i0 0) W1 → Calls Yba.prog 13 #[.pointer (some ⟨nd (i0 + 0), 0, none⟩), .pointer (some ⟨q, 0, none⟩), .func (.func fY) #[] #[c1, c2]] W1 fun e w' => e = .returned (.bool (rt (strs s0 P i0 (0 + 1)))) ∧ I (strs s0 P i0 (0 + 1)) w' := by
      intro W1 hI2
      have e1 : strs s0 P i0 (0 + 1) = strs s0 P i0 0 ++ [(P i0 + s, P (i0 + 1))] := by simp [strs, hs0]
      rw [e1]
      have hj : i0 < m := by omega
      exact leaf_some Y (nd i0) (P i0) (P (i0 + 1)) (n - P i0) q s kb S X y _ W1 hI2 (by rw [strs_length]; have := R.few; omega) (R.leaf _ hj) (Nat.le_of_lt (R.lt _ hj)) (R.le _ hj) (by have := R.le _ hj; have := R.lt _ hj; omega) (by have := R.small; omega) hm hc hk hq hs
    have HH : Hid (∀ W1, I (strs s0 P i0 0) W1 → Calls Yba.prog 13 #[.pointer (some ⟨nd (i0 + 0), 0, none⟩), .pointer (some ⟨q, 0, none⟩), .func (.func fY) #[] #[c1, c2]] W1 fun e w' => e = .returned (.bool (rt (strs s0 P i0 (0 + 1)))) ∧ I (strs s0 P i0 (0 + 1)) w') := HL0
    clear HL0 hm hc hk hq hs hr 
    rw [← hs0]
    clear hs0
    have hi1 : (i0 : Int) < (m : Int) := by omega
    have hi2 : (i0 : Int) < (kc : Int) := by omega
    have hi3 : ¬ (kc = i0) := by omega
    go_enter Yba.func13, Yba.ntmps13
    go_wp2_with fail
    refine hF.mono ?_
    rintro e w1 ⟨r', f, rfl, hr', hB1⟩
    obtain rfl := lowB_unique hr' HR.out
    clear hF HR hr' hB
    have hI1 := Y.grow _ _ _ hI hB1
    have k1 := (hB1.cell (p := ⟨t, 1, none⟩) (World.block_lt_of_cell? _ _ k1)).trans k1
    clear hB1
    rw [show ((i0 + 1 : Nat) : Int) = (i0 : Int) + 1 from by omega]
    go_wp2_with fail
    clear hnil
    have HL0 := HH.out
    have hgo : Going rt I s0 P i0 m 0 w1 := ⟨Nat.zero_le _, hI1, fun j h1 h2 => by omega⟩
    go_loopw [1, 56] (fun f x wr => ∃ k : Nat, Going rt I s0 P i0 m k wr ∧ x = .int .i64 k ∧ ((k = 0 ∧ f = .pointer (some ⟨q, 0, none⟩)) ∨ (0 < k ∧ f = .pointer none))) (fun _ x _ => (m - i0) - (intOf x).toNat)
    case atStart => exact ⟨0, hgo, rfl, .inl ⟨rfl, rfl⟩⟩
    case round =>
      obtain ⟨k, G, rfl, hf⟩ := hrel
      have hkm := G.1
      by_cases hlt : k < m - i0
      · have hB := Y.below _ _ G.2.1
        have hj : i0 + k < m := by omega
        obtain ⟨p0, p1⟩ := (R.kid (i0 + k) hj).below hB
        have e0 : (i0 + k) * 2 = i0 * 2 + k * 2 := by omega
        rw [e0] at p0 p1
        clear e0
        have hki : (k : Int) < ((m - i0 : Nat) : Int) := by omega
        have hcall : ∀ (fv : Value) (W1 : World), ((k = 0 ∧ fv = .pointer (some ⟨q, 0, none⟩)) ∨ (0 < k ∧ fv = .pointer none)) → I (strs s0 P i0 k) W1 → Calls Yba.prog 13 #[.pointer (some ⟨nd (i0 + k), 0, none⟩), fv, .func (.func fY) #[] #[c1, c2]] W1 fun e w' => e = .returned (.bool (rt (strs s0 P i0 (k + 1)))) ∧ I (strs s0 P i0 (k + 1)) w' := by
          intro fv W1 hfv hI2
          rcases hfv with ⟨rfl, rfl⟩ | ⟨h0, rfl⟩
          · exact HL0 W1 hI2
          · have e1 : strs s0 P i0 (k + 1) = strs s0 P i0 k ++ [(P (i0 + k), P (i0 + k + 1))] := by rw [strs, if_neg (by omega)]
            rw [e1]
            exact leaf_all Y (nd (i0 + k)) (P (i0 + k)) (P (i0 + k + 1)) (n - P (i0 + k)) _ W1 hI2 (by rw [strs_length]; have := R.few; omega) (R.leaf _ hj) (Nat.le_of_lt (R.lt _ hj)) (R.le _ hj) (by have := R.le _ hj; have := R.lt _ hj; omega) (by have := R.small; omega)
        generalize nd (i0 + k) = d at p1 hcall
        generalize kb (P (i0 + k)) = d0 at p0
        have HG : Hid (Going rt I s0 P i0 m k wr) := G
        have HK : Hid (∀ (fv : Value) (W1 : World), ((k = 0 ∧ fv = .pointer (some ⟨q, 0, none⟩)) ∨ (0 < k ∧ fv = .pointer none)) → I (strs s0 P i0 k) W1 → Calls Yba.prog 13 #[.pointer (some ⟨d, 0, none⟩), fv, .func (.func fY) #[] #[c1, c2]] W1 fun e w' => e = .returned (.bool (rt (strs s0 P i0 (k + 1)))) ∧ I (strs s0 P i0 (k + 1)) w') := hcall
        have HF : Hid ((k = 0 ∧ u1 = .pointer (some ⟨q, 0, none⟩)) ∨ (0 < k ∧ u1 = .pointer none)) := hf
        clear hcall G hf
        go_wp2_with fail
        refine (HK.out _ _ HF.out (Y.grow _ _ _ HG.out.2.1 ?_)).mono ?_
        · exact (Below.refl _ _).alloc (Nat.le_refl _) _
        rintro e w1 ⟨rfl, hI2⟩
        clear HK
        cases hrt : rt (strs s0 P i0 (k + 1)) with
        | true =>
          have GN := HG.out.next hlt hI2 hrt
          clear HG hrt
          go_wp2
          go_roundw
          case rel => exact ⟨k + 1, GN, by go_num, .inr ⟨by omega, rfl⟩⟩
          case measure => simp [intOf]; omega
        | false =>
          have GE := HG.out.stop hlt hI2 hrt
          clear HG hrt
          go_wp2
          go_ret
          exact ⟨false, rfl, GE⟩
      · obtain rfl : k = m - i0 := by omega
        have GE := G.done
        clear G hf
        go_wp2
        go_ret
        exact ⟨true, rfl, GE⟩
end Go.Proofs.Ybulkexa
