/- '(*node.tnode).from', over whatever yield keeps its word. -/
import Derived.Test.YbulkexaCalls
namespace Go.Proofs.Ybulkexa
open Go.RowKit Go.Deep

/-- A leaf: its records are those from lo to hi of the row rg. -/
def LeafAt (W : World) (nd rg lo hi C : Nat) : Prop := W.heap[nd]? = some (.cells #[.slice (some ⟨rg, lo * 5, none⟩) (hi - lo) C, .slice none 0 0] 54 (0, 0))

/-- WHAT A yield MUST KEEP: its word I (on the stretches that it has been handed, and the world) stays true while memory grows, says that what was there at W0 still is, and goes on by one stretch at each call. -/
structure Yields (W0 : World) (n rg fY : Nat) (c1 c2 : Value) (I : List (Nat × Nat) → World → Prop) (rt : List (Nat × Nat) → Bool) : Prop where
  enters : ∀ (args : Array Value) (W : World), (callFunc fY args).run Yba.prog W = .ok (.enter fY args) W
  below : ∀ L W, I L W → Below W0.heap.size W0 W
  grow : ∀ L W W', I L W → Below W.heap.size W W' → I L W'
  call : ∀ (L : List (Nat × Nat)) (lo hi : Nat) (ad : Addr) (c : Nat) (W : World), I L W → L.length ≤ 1024 → lo ≤ hi → hi ≤ n → (lo < hi → ad = ⟨rg, lo * 5, none⟩) → hi - lo ≤ c → c ≤ 1024 →
    Calls Yba.prog fY #[.slice (some ad) (hi - lo) c, c1, c2] W fun e w' => e = .returned (.bool (rt (L ++ [(lo, hi)]))) ∧ I (L ++ [(lo, hi)]) w'

theorem enters14 (args : Array Value) (W : World) : (callFunc 14 args).run Yba.prog W = .ok (.enter 14 args) W := by kernel_rfl
theorem enters17 (args : Array Value) (W : World) : (callFunc 17 args).run Yba.prog W = .ok (.enter 17 args) W := by kernel_rfl

set_option maxRecDepth 100000 in
set_option maxHeartbeats 400000 in
theorem leaf_all {W0 : World} {n rg fY : Nat} {c1 c2 : Value} {I : List (Nat × Nat) → World → Prop} {rt : List (Nat × Nat) → Bool} (Y : Yields W0 n rg fY c1 c2 I rt) (nd lo hi C : Nat) (L : List (Nat × Nat)) (W : World)
    (hI : I L W) (hlen : L.length ≤ 1024) (hl : LeafAt W0 nd rg lo hi C) (h1 : lo ≤ hi) (h2 : hi ≤ n) (h3 : hi - lo ≤ C) (h4 : C ≤ 1024) :
    Calls Yba.prog 13 #[.pointer (some ⟨nd, 0, none⟩), .pointer none, .func (.func fY) #[] #[c1, c2]] W fun e w' => e = .returned (.bool (rt (L ++ [(lo, hi)]))) ∧ I (L ++ [(lo, hi)]) w' := by
  have hk := kept_at hl (Y.below _ _ hI)
  have k0 := cell_at hk 0
  have k1 := cell_at hk 1
  simp at k0 k1
  have hnil := fun (W : World) (a : Option Addr) (n c : Nat) => Lib.run_eql_slice_nil (P := Yba.prog) W 52 56 a n c 0 0 Yba.underlying52
  have hen := Y.enters
  clear hk hl
  go_enter Yba.func13, Yba.ntmps13
  go_wp2_with fail
  refine (Y.call L lo hi _ C W hI hlen h1 h2 (fun _ => rfl) h3 h4).mono ?_
  rintro e w1 ⟨rfl, hI1⟩
  go_wp2
  go_ret
  exact ⟨rfl, hI1⟩

set_option maxRecDepth 100000 in
set_option maxHeartbeats 400000 in
theorem leaf_some {W0 : World} {n rg fY : Nat} {c1 c2 : Value} {I : List (Nat × Nat) → World → Prop} {rt : List (Nat × Nat) → Bool} (Y : Yields W0 n rg fY c1 c2 I rt) (nd lo hi C q r : Nat) (kb : Nat → Nat) (S X : Nat → Int) (y : Int) (L : List (Nat × Nat)) (W : World)
    (hI : I L W) (hlen : L.length ≤ 1024) (hl : LeafAt W0 nd rg lo hi C) (h1 : lo ≤ hi) (h2 : hi ≤ n) (h3 : hi - lo ≤ C) (h4 : C ≤ 1024)
    (hm : ∀ s t, s ≤ t → t < n → X s ≤ X t) (hc : ∀ j, j < n → RecAt W0 rg (j * 5) (kb j) (S j)) (hk : ∀ j, j < n → BigIs W0 (kb j) (X j)) (hq : BigIs W0 q y) (hr : LowB (fun j => X (lo + j)) (hi - lo) y r) :
    Calls Yba.prog 13 #[.pointer (some ⟨nd, 0, none⟩), .pointer (some ⟨q, 0, none⟩), .func (.func fY) #[] #[c1, c2]] W fun e w' => e = .returned (.bool (rt (L ++ [(lo + r, hi)]))) ∧ I (L ++ [(lo + r, hi)]) w' := by
  have hB := Y.below _ _ hI
  have hkk := kept_at hl hB
  have k0 := cell_at hkk 0
  have k1 := cell_at hkk 1
  simp at k0 k1
  have hnil := fun (W : World) (a : Option Addr) (n c : Nat) => Lib.run_eql_slice_nil (P := Yba.prog) W 52 56 a n c 0 0 Yba.underlying52
  have hen := Y.enters
  have hF := find_held rg (lo * 5) (hi - lo) C q (fun j => kb (lo + j)) (fun j => S (lo + j)) (fun j => X (lo + j)) y W (by omega) (fun s t hs ht => hm _ _ (by omega) (by omega))
    (fun j hj => by have := (hc (lo + j) (by omega)).below hB; rwa [Nat.add_mul] at this) (fun j hj => (hk (lo + j) (by omega)).below hB) (hq.below hB)
  clear hkk
  go_enter Yba.func13, Yba.ntmps13
  go_wp2_with fail
  refine hF.mono ?_
  rintro e w1 ⟨r', f, rfl, hr', hB1⟩
  have hrr := lowB_unique hr' hr
  subst hrr
  have hI1 := Y.grow _ _ _ hI hB1
  have k0 := (hB1.cell (p := ⟨nd, 0, none⟩) (World.block_lt_of_cell? _ _ k0)).trans k0
  have hrl := hr.1
  have hrC : (r' : Int) ≤ (C : Int) := by omega
  have hrc : (r' : Int) ≤ ((hi - lo : Nat) : Int) := by omega
  clear hF hr hr' hm hc hk hq hB hl
  go_wp2_with fail
  · rw [show hi - lo - r' = hi - (lo + r') from by omega]
    refine (Y.call L (lo + r') hi _ 0 w1 hI1 hlen (by omega) h2 (fun h => by omega) (by omega) (by omega)).mono ?_
    rintro e w2 ⟨rfl, hI2⟩
    go_wp2
    go_ret
    exact ⟨rfl, hI2⟩
  · rw [show hi - lo - r' = hi - (lo + r') from by omega]
    refine (Y.call L (lo + r') hi _ (C - r') w1 hI1 hlen (by omega) h2 (fun _ => by rw [Nat.add_mul]) (by omega) (by omega)).mono ?_
    rintro e w2 ⟨rfl, hI2⟩
    go_wp2
    go_ret
    exact ⟨rfl, hI2⟩
end Go.Proofs.Ybulkexa
