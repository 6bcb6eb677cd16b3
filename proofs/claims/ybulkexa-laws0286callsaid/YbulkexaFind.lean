/- 'slices.BinarySearchFunc' at []held and at []child, with the two function literals of '(*tnode).from'. -/
import Derived.Test.YbulkexaCmp
namespace Go.Proofs.Ybulkexa
open Go.RowKit Go.Deep

/-- A record at a place: its key's block, its stamp. -/
structure RecAt (W : World) (g o b : Nat) (s : Int) : Prop where
  c0 : W.cell? ⟨g, o, none⟩ = some (.pointer (some ⟨b, 0, none⟩))
  c1 : W.cell? ⟨g, o + 1, none⟩ = some (.slice none 0 0)
  c2 : W.cell? ⟨g, o + 2, none⟩ = some (.slice none 0 0)
  c3 : W.cell? ⟨g, o + 3, none⟩ = some (.slice none 0 0)
  c4 : W.cell? ⟨g, o + 4, none⟩ = some (.int .u64 s)
theorem RecAt.below {w w' : World} {g o b : Nat} {s : Int} (h : RecAt w g o b s) (hb : Below w.heap.size w w') : RecAt w' g o b s := by
  have hg : g < w.heap.size := World.block_lt_of_cell? _ _ h.c0
  exact ⟨(hb.cell hg).trans h.c0, (hb.cell hg).trans h.c1, (hb.cell hg).trans h.c2, (hb.cell hg).trans h.c3, (hb.cell hg).trans h.c4⟩
/-- A child at a place: its first key's block, its node's block. -/
structure KidAt (W : World) (g o b nd : Nat) : Prop where
  c0 : W.cell? ⟨g, o, none⟩ = some (.pointer (some ⟨b, 0, none⟩))
  c1 : W.cell? ⟨g, o + 1, none⟩ = some (.pointer (some ⟨nd, 0, none⟩))
theorem KidAt.below {w w' : World} {g o b nd : Nat} (h : KidAt w g o b nd) (hb : Below w.heap.size w w') : KidAt w' g o b nd := by
  have hg : g < w.heap.size := World.block_lt_of_cell? _ _ h.c0
  exact ⟨(hb.cell hg).trans h.c0, (hb.cell hg).trans h.c1⟩

/-- r is where y goes among X 0 .. X (L - 1). -/
def LowB (X : Nat → Int) (L : Nat) (y : Int) (r : Nat) : Prop := r ≤ L ∧ (∀ t, t < r → X t < y) ∧ ∀ t, r ≤ t → t < L → y ≤ X t
/-- .. and the search stands between a and b. -/
def Between (X : Nat → Int) (L : Nat) (y : Int) (a b : Nat) : Prop := a ≤ b ∧ b ≤ L ∧ (∀ t, t < a → X t < y) ∧ ∀ t, b ≤ t → t < L → y ≤ X t
theorem Between.start (X : Nat → Int) (L : Nat) (y : Int) : Between X L y 0 L := ⟨Nat.zero_le _, Nat.le_refl _, fun _ h => by omega, fun _ h k => by omega⟩
theorem Between.up {X : Nat → Int} {L : Nat} {y : Int} {a b h : Nat} (B : Between X L y a b) (hm : ∀ s t, s ≤ t → t < L → X s ≤ X t) (_h1 : a ≤ h) (h2 : h < b) (hc : X h < y) : Between X L y (h + 1) b :=
  ⟨by omega, B.2.1, fun t ht => Int.lt_of_le_of_lt (hm t h (by omega) (by have := B.2.1; omega)) hc, B.2.2.2⟩
theorem Between.down {X : Nat → Int} {L : Nat} {y : Int} {a b h : Nat} (B : Between X L y a b) (hm : ∀ s t, s ≤ t → t < L → X s ≤ X t) (h1 : a ≤ h) (h2 : h < b) (hc : ¬ X h < y) : Between X L y a h :=
  ⟨h1, by have := B.2.1; omega, B.2.2.1, fun t ht hl => Int.le_trans (by omega) (hm h t ht hl)⟩
theorem Between.done {X : Nat → Int} {L : Nat} {y : Int} {a : Nat} (B : Between X L y a a) : LowB X L y a := ⟨B.2.1, B.2.2.1, B.2.2.2⟩
theorem cmpZ_lt {x y : Int} (h : x < y) : cmpZ x y = -1 := by unfold cmpZ; rw [if_pos h]
theorem cmpZ_ge {x y : Int} (h : ¬ x < y) : 0 ≤ cmpZ x y := by unfold cmpZ; rw [if_neg h]; split <;> omega

theorem up_drew {w w1 w2 : World} {m : Nat} (h : Below w.heap.size w w1) (e : w2 = w1.drewN m) : Below w.heap.size w w2 := by rw [e]; exact below_drewN h m

set_option maxRecDepth 100000 in
set_option maxHeartbeats 400000 in
theorem key_held (b q : Nat) (s x y : Int) (w : World) (hb : BigIs w b x) (hq : BigIs w q y) :
    Calls Yba.prog 25 #[.agg #[.pointer (some ⟨b, 0, none⟩), .slice none 0 0, .slice none 0 0, .slice none 0 0, .int .u64 s], .pointer (some ⟨q, 0, none⟩)] w fun e w' => e = .returned (.int .i64 (cmpZ x y)) ∧ Below w.heap.size w w' := by
  have BA := (Below.refl w.heap.size w).alloc (Nat.le_refl _) (.cells #[.pointer (some ⟨b, 0, none⟩), .slice none 0 0, .slice none 0 0, .slice none 0 0, .int .u64 s] 48)
  have hb' := hb.below BA
  have hq' := hq.below BA
  go_enter Yba.func25, Yba.ntmps25
  go_wp2_with fail
  refine (cmp_any b q x y _ hb' hq').mono ?_
  rintro e w' ⟨rfl, m, hm⟩
  have BB := up_drew BA hm
  clear hm
  go_wp2
  go_ret
  exact ⟨rfl, BB⟩

set_option maxRecDepth 100000 in
set_option maxHeartbeats 400000 in
theorem key_child (b q nd : Nat) (x y : Int) (w : World) (hb : BigIs w b x) (hq : BigIs w q y) :
    Calls Yba.prog 27 #[.agg #[.pointer (some ⟨b, 0, none⟩), .pointer (some ⟨nd, 0, none⟩)], .pointer (some ⟨q, 0, none⟩)] w fun e w' => e = .returned (.int .i64 (cmpZ x y)) ∧ Below w.heap.size w w' := by
  have BA := (Below.refl w.heap.size w).alloc (Nat.le_refl _) (.cells #[.pointer (some ⟨b, 0, none⟩), .pointer (some ⟨nd, 0, none⟩)] 56)
  have hb' := hb.below BA
  have hq' := hq.below BA
  go_enter Yba.func27, Yba.ntmps27
  go_wp2_with fail
  refine (cmp_any b q x y _ hb' hq').mono ?_
  rintro e w' ⟨rfl, m, hm⟩
  have BB := up_drew BA hm
  clear hm
  go_wp2
  go_ret
  exact ⟨rfl, BB⟩

set_option maxRecDepth 100000 in
set_option maxHeartbeats 1000000 in
theorem find_held (g o L C q : Nat) (kb : Nat → Nat) (S : Nat → Int) (X : Nat → Int) (y : Int) (w : World) (hL : L ≤ 1024) (hm : ∀ s t, s ≤ t → t < L → X s ≤ X t)
    (hc : ∀ j, j < L → RecAt w g (o + j * 5) (kb j) (S j)) (hk : ∀ j, j < L → BigIs w (kb j) (X j)) (hq : BigIs w q y) :
    Calls Yba.prog 24 #[.slice (some ⟨g, o, none⟩) L C, .pointer (some ⟨q, 0, none⟩), .func (.func 25) #[] #[]] w fun e w' => ∃ (r : Nat) (f : Bool), e = .returned (.tuple #[.int .i64 r, .bool f]) ∧ LowB X L y r ∧ Below w.heap.size w w' := by
  go_enter Yba.func24, Yba.ntmps24
  go_wp2
  go_loopw [9, 10] (fun i j wr => ∃ a b : Nat, Between X L y a b ∧ i = .int .i64 a ∧ j = .int .i64 b ∧ Below w.heap.size w wr) (fun i j _ => ((intOf j) - (intOf i)).toNat)
  case atStart => exact ⟨0, L, Between.start X L y, rfl, rfl, Below.refl _ _⟩
  case round =>
    obtain ⟨a, b, BT, rfl, rfl, hB⟩ := hrel
    have hab := BT.1
    have hbL := BT.2.1
    by_cases hlt : a < b
    · have hh : (a + b) / 2 < L := by omega
      have hi : ((a : Int) + b) / 2 < (L : Int) := by omega
      obtain ⟨p0, p1, p2, p3, p4⟩ := (hc _ hh).below hB
      have K1 := (hk _ hh).below hB
      have K2 := hq.below hB
      have HU : Hid (X ((a + b) / 2) < y → Between X L y ((a + b) / 2 + 1) b) := fun h => BT.up hm (by omega) (by omega) h
      have HD : Hid (¬ X ((a + b) / 2) < y → Between X L y a ((a + b) / 2)) := fun h => BT.down hm (by omega) (by omega) h
      have HC : Hid (∀ h : X ((a + b) / 2) < y, cmpZ (X ((a + b) / 2)) y = -1) := fun h => cmpZ_lt h
      have HG : Hid (∀ h : ¬ X ((a + b) / 2) < y, 0 ≤ cmpZ (X ((a + b) / 2)) y) := fun h => cmpZ_ge h
      go_wp2_with fail
      refine (key_held (kb ((a + b) / 2)) q (S ((a + b) / 2)) (X ((a + b) / 2)) y _ K1 K2).mono ?_
      rintro e w1 ⟨rfl, hB1⟩
      have hB2 := hB.trans (hB1.mono hB.size)
      clear hB1 p0 p1 p2 p3 p4 K1 K2
      by_cases hx : X ((a + b) / 2) < y
      · have hb' := HU.out hx
        rw [HC.out hx]
        clear HU HD HC HG hx
        go_wp2
        go_roundw
        case rel => exact ⟨(a + b) / 2 + 1, b, hb', by go_num, rfl, hB2⟩
        case measure => simp [intOf]; omega
      · have hb' := HD.out (by omega)
        have hr := HG.out (by omega)
        generalize cmpZ (X ((a + b) / 2)) y = r at hr ⊢
        clear HU HD HC HG hx
        go_wp2
        go_roundw
        case rel => exact ⟨a, (a + b) / 2, hb', rfl, by go_num, hB2⟩
        case measure => simp [intOf]; omega
    · obtain rfl : a = b := by omega
      have LB := BT.done
      by_cases hl : a < L
      · have hl' : (a : Int) < (L : Int) := by omega
        obtain ⟨p0, p1, p2, p3, p4⟩ := (hc _ hl).below hB
        have K1 := (hk _ hl).below hB
        have K2 := hq.below hB
        clear BT
        go_wp2_with fail
        refine (key_held (kb a) q (S a) (X a) y _ K1 K2).mono ?_
        rintro e w1 ⟨rfl, hB1⟩
        have hB2 := hB.trans (hB1.mono hB.size)
        clear hB1 p0 p1 p2 p3 p4 K1 K2
        go_wp2
        go_ret2
        exact ⟨a, _, rfl, LB, hB2⟩
      · have hl' : decide ((a : Int) < (L : Int)) = false := decide_eq_false (by omega)
        clear BT
        go_wp2
        go_ret2
        exact ⟨a, _, rfl, LB, hB⟩

set_option maxRecDepth 100000 in
set_option maxHeartbeats 1000000 in
theorem find_child (g o L C q : Nat) (kb : Nat → Nat) (X : Nat → Int) (nd : Nat → Nat) (y : Int) (w : World) (hL : L ≤ 1024) (hm : ∀ s t, s ≤ t → t < L → X s ≤ X t)
    (hc : ∀ j, j < L → KidAt w g (o + j * 2) (kb j) (nd j)) (hk : ∀ j, j < L → BigIs w (kb j) (X j)) (hq : BigIs w q y) :
    Calls Yba.prog 26 #[.slice (some ⟨g, o, none⟩) L C, .pointer (some ⟨q, 0, none⟩), .func (.func 27) #[] #[]] w fun e w' => ∃ (r : Nat) (f : Bool), e = .returned (.tuple #[.int .i64 r, .bool f]) ∧ LowB X L y r ∧ Below w.heap.size w w' := by
  go_enter Yba.func26, Yba.ntmps26
  go_wp2
  go_loopw [9, 10] (fun i j wr => ∃ a b : Nat, Between X L y a b ∧ i = .int .i64 a ∧ j = .int .i64 b ∧ Below w.heap.size w wr) (fun i j _ => ((intOf j) - (intOf i)).toNat)
  case atStart => exact ⟨0, L, Between.start X L y, rfl, rfl, Below.refl _ _⟩
  case round =>
    obtain ⟨a, b, BT, rfl, rfl, hB⟩ := hrel
    have hab := BT.1
    have hbL := BT.2.1
    by_cases hlt : a < b
    · have hh : (a + b) / 2 < L := by omega
      have hi : ((a : Int) + b) / 2 < (L : Int) := by omega
      obtain ⟨p0, p1⟩ := (hc _ hh).below hB
      have K1 := (hk _ hh).below hB
      have K2 := hq.below hB
      have HU : Hid (X ((a + b) / 2) < y → Between X L y ((a + b) / 2 + 1) b) := fun h => BT.up hm (by omega) (by omega) h
      have HD : Hid (¬ X ((a + b) / 2) < y → Between X L y a ((a + b) / 2)) := fun h => BT.down hm (by omega) (by omega) h
      have HC : Hid (∀ h : X ((a + b) / 2) < y, cmpZ (X ((a + b) / 2)) y = -1) := fun h => cmpZ_lt h
      have HG : Hid (∀ h : ¬ X ((a + b) / 2) < y, 0 ≤ cmpZ (X ((a + b) / 2)) y) := fun h => cmpZ_ge h
      go_wp2_with fail
      refine (key_child (kb ((a + b) / 2)) q (nd ((a + b) / 2)) (X ((a + b) / 2)) y _ K1 K2).mono ?_
      rintro e w1 ⟨rfl, hB1⟩
      have hB2 := hB.trans (hB1.mono hB.size)
      clear hB1 p0 p1 K1 K2
      by_cases hx : X ((a + b) / 2) < y
      · have hb' := HU.out hx
        rw [HC.out hx]
        clear HU HD HC HG hx
        go_wp2
        go_roundw
        case rel => exact ⟨(a + b) / 2 + 1, b, hb', by go_num, rfl, hB2⟩
        case measure => simp [intOf]; omega
      · have hb' := HD.out (by omega)
        have hr := HG.out (by omega)
        generalize cmpZ (X ((a + b) / 2)) y = r at hr ⊢
        clear HU HD HC HG hx
        go_wp2
        go_roundw
        case rel => exact ⟨a, (a + b) / 2, hb', rfl, by go_num, hB2⟩
        case measure => simp [intOf]; omega
    · obtain rfl : a = b := by omega
      have LB := BT.done
      by_cases hl : a < L
      · have hl' : (a : Int) < (L : Int) := by omega
        obtain ⟨p0, p1⟩ := (hc _ hl).below hB
        have K1 := (hk _ hl).below hB
        have K2 := hq.below hB
        clear BT
        go_wp2_with fail
        refine (key_child (kb a) q (nd a) (X a) y _ K1 K2).mono ?_
        rintro e w1 ⟨rfl, hB1⟩
        have hB2 := hB.trans (hB1.mono hB.size)
        clear hB1 p0 p1 K1 K2
        go_wp2
        go_ret2
        exact ⟨a, _, rfl, LB, hB2⟩
      · have hl' : decide ((a : Int) < (L : Int)) = false := decide_eq_false (by omega)
        clear BT
        go_wp2
        go_ret2
        exact ⟨a, _, rfl, LB, hB⟩

end Go.Proofs.Ybulkexa
