/- THE CONTRACT of 'curve.Box.Intersect'. -/
import Derived.Test.YbulkexaBox
import Derived.Deep.CutRange
import Derived.Deep.DeepCutAuto
import Derived.Deep.LoopGhost
import Derived.Deep.RegionHeld
namespace Go.Proofs.Ybulkexa
open Go.RowKit

/-- The greater, the lesser of two: as the walk writes them. -/
def mx (a b : Int) : Int := if a < b then b else a
def mn (a b : Int) : Int := if b < a then b else a

/-- What the first statement of Intersect has made: the two new rows (of zeros) and the box that holds them, all beyond N. -/
structure Made (N : Nat) (W0 wx : World) (hb h1 h2 n m : Nat) : Prop where
  bel : Below N W0 wx
  r1 : wx.rowIs h1 27 n (fun _ => .int .u64 0)
  r2 : wx.rowIs h2 27 m (fun _ => .int .u64 0)
  bx : wx.heap[hb]? = some (.cells #[.slice (some ⟨h1, 0, none⟩) n n, .slice (some ⟨h2, 0, none⟩) m m] 25 (0, 0))
  n1 : N ≤ h1
  n2 : N ≤ h2
  nb : N ≤ hb
  d1 : h1 ≠ h2
  d2 : h1 ≠ hb
  d3 : h2 ≠ hb

theorem three (W : World) (N : Nat) (hN : W.heap.size = N) (a b c : Obj) :
    (((W.alloc a).alloc b).alloc c).drew.heap[N]? = some a ∧ (((W.alloc a).alloc b).alloc c).drew.heap[N + 1]? = some b ∧ (((W.alloc a).alloc b).alloc c).drew.heap[N + 1 + 1]? = some c ∧ Below N W (((W.alloc a).alloc b).alloc c).drew := by
  subst hN
  refine ⟨?_, ?_, ?_, ?_⟩
  · show (((W.heap.push a).push b).push c)[W.heap.size]? = _
    simp only [Array.getElem?_push, Array.size_push]
    rw [if_neg (by omega), if_neg (by omega), if_pos trivial]
  · show (((W.heap.push a).push b).push c)[W.heap.size + 1]? = _
    simp only [Array.getElem?_push, Array.size_push]
    rw [if_neg (by omega), if_pos trivial]
  · show (((W.heap.push a).push b).push c)[W.heap.size + 1 + 1]? = _
    simp only [Array.getElem?_push, Array.size_push]
    rw [if_pos trivial]
  · exact ((((Below.refl _ _).alloc (Nat.le_refl _) _).alloc (by simp) _).alloc (by simp; omega) _).drew

theorem cell_blk {W : World} {b : Nat} {c : Array Value} {t : TypeId} (h : W.heap[b]? = some (.cells c t)) (j : Nat) : W.cell? ⟨b, j, none⟩ = c[j]? := by
  simp [World.cell?, h]
theorem free_blk {W : World} {b : Nat} {c : Array Value} {t : TypeId} (h : W.heap[b]? = some (.cells c t (0, 0))) (j : Nat) : W.frozen? ⟨b, j, none⟩ = false := by
  simp [World.frozen?, h]
/-- Behind three new blocks and whatever leaves those three alone. -/
theorem boxes {w W : World} {a b c : Obj} (h : Below (w.heap.size + 3) (((w.alloc a).alloc b).alloc c) W) :
    W.heap[w.heap.size]? = some a ∧ W.heap[w.heap.size + 1]? = some b ∧ W.heap[w.heap.size + 1 + 1]? = some c ∧ Below w.heap.size w W := by
  have t := three w w.heap.size rfl a b c
  exact ⟨(h.block _ (by omega)).trans t.1, (h.block _ (by omega)).trans t.2.1, (h.block _ (by omega)).trans t.2.2.1, t.2.2.2.trans ⟨h.os, h.tape, h.output, h.size, fun k hk => h.block k (by omega)⟩⟩

/-- Where Intersect's loop stands behind k rounds. -/
structure SectAt (W0 wr : World) (hb h1 h2 n m : Nat) (F G : Nat → Int) (k : Nat) : Prop where
  bel : Below (W0.heap.size) W0 wr
  r1 : wr.rowIs h1 27 n (fun j => .int .u64 (if j < k then F j else 0))
  r2 : wr.rowIs h2 27 m (fun j => .int .u64 (if j < k then G j else 0))
  bx : wr.heap[hb]? = some (.cells #[.slice (some ⟨h1, 0, none⟩) n n, .slice (some ⟨h2, 0, none⟩) m m] 25 (0, 0))

theorem SectAt.step {W0 wr : World} {hb h1 h2 n m : Nat} {F G : Nat → Int} {k : Nat} (S : SectAt W0 wr hb h1 h2 n m F G k)
    (n1 : W0.heap.size ≤ h1) (n2 : W0.heap.size ≤ h2) (d1 : h1 ≠ h2) (d2 : h1 ≠ hb) (d3 : h2 ≠ hb) :
    SectAt W0 ((wr.setCell ⟨h1, k, none⟩ (.int .u64 (F k))).setCell ⟨h2, k, none⟩ (.int .u64 (G k))).drew hb h1 h2 n m F G (k + 1) := by
  refine ⟨((S.bel.setCell n1 _).setCell n2 _).drew, ?_, ?_, ?_⟩
  · refine ((S.r1.set k _).setOther d1 _).drew.congr fun j _ => ?_
    by_cases e : j = k
    · subst e; simp
    · have : (j < k + 1) ↔ (j < k) := by omega
      simp [e, this]
  · refine ((S.r2.setOther (a := ⟨h1, k, none⟩) (fun e => d1 e.symm) _).set k _).drew.congr fun j _ => ?_
    by_cases e : j = k
    · subst e; simp
    · have : (j < k + 1) ↔ (j < k) := by omega
      simp [e, this]
  · show ((wr.setCell ⟨h1, k, none⟩ (.int .u64 (F k))).setCell ⟨h2, k, none⟩ (.int .u64 (G k))).heap[hb]? = _
    rw [heap_setCell_other _ _ _ _ (fun e => d3 e.symm), heap_setCell_other _ _ _ _ (fun e => d2 e.symm)]
    exact S.bx

theorem row_made {wx : World} {h n : Nat} (e : wx.heap[h]? = some (.cells (madeCells #[.int .u64 0] n) 27)) : wx.rowIs h 27 n (fun _ => .int .u64 0) :=
  ⟨_, e, size_madeCells _ _, fun i hi => by simp [madeCells, hi, Nat.mod_one]⟩

theorem made_blh (W : World) (N n m : Nat) (hN : W.heap.size = N) :
    ∃ hb h1 h2, Value.pointer (some ⟨N, 0, none⟩) = .pointer (some ⟨hb, 0, none⟩) ∧ Made N W (((W.alloc (.cells #[.slice (some ⟨N + 1, 0, none⟩) n n, .slice (some ⟨N + 1 + 1, 0, none⟩) m m] 25)).alloc (.cells (madeCells #[.int .u64 0] n) 27)).alloc (.cells (madeCells #[.int .u64 0] m) 27)).drew hb h1 h2 n m := by
  have t := three W N hN (.cells #[.slice (some ⟨N + 1, 0, none⟩) n n, .slice (some ⟨N + 1 + 1, 0, none⟩) m m] 25) (.cells (madeCells #[.int .u64 0] n) 27) (.cells (madeCells #[.int .u64 0] m) 27)
  exact ⟨_, N + 1, N + 1 + 1, rfl, ⟨t.2.2.2, row_made t.2.1, row_made t.2.2.1, t.1, by omega, by omega, by omega, by omega, by omega, by omega⟩⟩
theorem made_bhl (W : World) (N n m : Nat) (hN : W.heap.size = N) :
    ∃ hb h1 h2, Value.pointer (some ⟨N, 0, none⟩) = .pointer (some ⟨hb, 0, none⟩) ∧ Made N W (((W.alloc (.cells #[.slice (some ⟨N + 1 + 1, 0, none⟩) n n, .slice (some ⟨N + 1, 0, none⟩) m m] 25)).alloc (.cells (madeCells #[.int .u64 0] m) 27)).alloc (.cells (madeCells #[.int .u64 0] n) 27)).drew hb h1 h2 n m := by
  have t := three W N hN (.cells #[.slice (some ⟨N + 1 + 1, 0, none⟩) n n, .slice (some ⟨N + 1, 0, none⟩) m m] 25) (.cells (madeCells #[.int .u64 0] m) 27) (.cells (madeCells #[.int .u64 0] n) 27)
  exact ⟨_, N + 1 + 1, N + 1, rfl, ⟨t.2.2.2, row_made t.2.2.1, row_made t.2.1, t.1, by omega, by omega, by omega, by omega, by omega, by omega⟩⟩
theorem made_lbh (W : World) (N n m : Nat) (hN : W.heap.size = N) :
    ∃ hb h1 h2, Value.pointer (some ⟨N + 1, 0, none⟩) = .pointer (some ⟨hb, 0, none⟩) ∧ Made N W (((W.alloc (.cells (madeCells #[.int .u64 0] n) 27)).alloc (.cells #[.slice (some ⟨N, 0, none⟩) n n, .slice (some ⟨N + 1 + 1, 0, none⟩) m m] 25)).alloc (.cells (madeCells #[.int .u64 0] m) 27)).drew hb h1 h2 n m := by
  have t := three W N hN (.cells (madeCells #[.int .u64 0] n) 27) (.cells #[.slice (some ⟨N, 0, none⟩) n n, .slice (some ⟨N + 1 + 1, 0, none⟩) m m] 25) (.cells (madeCells #[.int .u64 0] m) 27)
  exact ⟨_, N, N + 1 + 1, rfl, ⟨t.2.2.2, row_made t.1, row_made t.2.2.1, t.2.1, by omega, by omega, by omega, by omega, by omega, by omega⟩⟩
theorem made_lhb (W : World) (N n m : Nat) (hN : W.heap.size = N) :
    ∃ hb h1 h2, Value.pointer (some ⟨N + 1 + 1, 0, none⟩) = .pointer (some ⟨hb, 0, none⟩) ∧ Made N W (((W.alloc (.cells (madeCells #[.int .u64 0] n) 27)).alloc (.cells (madeCells #[.int .u64 0] m) 27)).alloc (.cells #[.slice (some ⟨N, 0, none⟩) n n, .slice (some ⟨N + 1, 0, none⟩) m m] 25)).drew hb h1 h2 n m := by
  have t := three W N hN (.cells (madeCells #[.int .u64 0] n) 27) (.cells (madeCells #[.int .u64 0] m) 27) (.cells #[.slice (some ⟨N, 0, none⟩) n n, .slice (some ⟨N + 1, 0, none⟩) m m] 25)
  exact ⟨_, N, N + 1, rfl, ⟨t.2.2.2, row_made t.1, row_made t.2.1, t.2.2.1, by omega, by omega, by omega, by omega, by omega, by omega⟩⟩
theorem made_hbl (W : World) (N n m : Nat) (hN : W.heap.size = N) :
    ∃ hb h1 h2, Value.pointer (some ⟨N + 1, 0, none⟩) = .pointer (some ⟨hb, 0, none⟩) ∧ Made N W (((W.alloc (.cells (madeCells #[.int .u64 0] m) 27)).alloc (.cells #[.slice (some ⟨N + 1 + 1, 0, none⟩) n n, .slice (some ⟨N, 0, none⟩) m m] 25)).alloc (.cells (madeCells #[.int .u64 0] n) 27)).drew hb h1 h2 n m := by
  have t := three W N hN (.cells (madeCells #[.int .u64 0] m) 27) (.cells #[.slice (some ⟨N + 1 + 1, 0, none⟩) n n, .slice (some ⟨N, 0, none⟩) m m] 25) (.cells (madeCells #[.int .u64 0] n) 27)
  exact ⟨_, N + 1 + 1, N, rfl, ⟨t.2.2.2, row_made t.2.2.1, row_made t.1, t.2.1, by omega, by omega, by omega, by omega, by omega, by omega⟩⟩
theorem made_hlb (W : World) (N n m : Nat) (hN : W.heap.size = N) :
    ∃ hb h1 h2, Value.pointer (some ⟨N + 1 + 1, 0, none⟩) = .pointer (some ⟨hb, 0, none⟩) ∧ Made N W (((W.alloc (.cells (madeCells #[.int .u64 0] m) 27)).alloc (.cells (madeCells #[.int .u64 0] n) 27)).alloc (.cells #[.slice (some ⟨N + 1, 0, none⟩) n n, .slice (some ⟨N, 0, none⟩) m m] 25)).drew hb h1 h2 n m := by
  have t := three W N hN (.cells (madeCells #[.int .u64 0] m) 27) (.cells (madeCells #[.int .u64 0] n) 27) (.cells #[.slice (some ⟨N + 1, 0, none⟩) n n, .slice (some ⟨N, 0, none⟩) m m] 25)
  exact ⟨_, N + 1, N, rfl, ⟨t.2.2.2, row_made t.2.1, row_made t.1, t.2.2.1, by omega, by omega, by omega, by omega, by omega, by omega⟩⟩

set_option maxRecDepth 100000 in
set_option maxHeartbeats 1000000 in
theorem intersect_any (g1 g2 g3 g4 n m : Nat) (f1 f2 f3 f4 : Nat → Int) (w : World) (hnm : n ≤ m) (hm : m ≤ 1024)
    (r1 : ∀ j, j < n → w.cell? ⟨g1, j, none⟩ = some (.int .u64 (f1 j))) (r2 : ∀ j, j < n → w.cell? ⟨g2, j, none⟩ = some (.int .u64 (f2 j)))
    (r3 : ∀ j, j < n → w.cell? ⟨g3, j, none⟩ = some (.int .u64 (f3 j))) (r4 : ∀ j, j < n → w.cell? ⟨g4, j, none⟩ = some (.int .u64 (f4 j))) :
    Calls Yba.prog 8 #[.agg #[.slice (some ⟨g1, 0, none⟩) n n, .slice (some ⟨g2, 0, none⟩) m m], .agg #[.slice (some ⟨g3, 0, none⟩) n n, .slice (some ⟨g4, 0, none⟩) n n]] w
      fun e w' => ∃ h1 h2, e = .returned (.agg #[.slice (some ⟨h1, 0, none⟩) n n, .slice (some ⟨h2, 0, none⟩) m m]) ∧ w.heap.size ≤ h1 ∧ w.heap.size ≤ h2 ∧ h1 ≠ h2 ∧
        w'.rowIs h1 27 n (fun j => .int .u64 (mx (f1 j) (f3 j))) ∧ w'.rowIs h2 27 m (fun j => .int .u64 (if j < n then mn (f2 j) (f4 j) else 0)) ∧ Below w.heap.size w w' := by
  have hmk := run_make_row' (P := Yba.prog) 22 27 (.int .u64 0) 8 Yba.underlying22 info27 rfl .i64 .i64 n (by omega) (by omega)
  have hmk' := run_make_row' (P := Yba.prog) 22 27 (.int .u64 0) 8 Yba.underlying22 info27 rfl .i64 .i64 m (by omega) (by omega)
  go_enter Yba.func8, Yba.ntmps8
  go_upto_region 1 with fail
  go_cut [5] (fun s5 wx => ∃ hb h1 h2, s5 = .pointer (some ⟨hb, 0, none⟩) ∧ Made (w.heap.size + 3) (((w.alloc (.cells #[.slice (some ⟨g1, 0, none⟩) n n, .slice (some ⟨g2, 0, none⟩) m m] 25)).alloc (.cells #[.slice (some ⟨g3, 0, none⟩) n n, .slice (some ⟨g4, 0, none⟩) n n] 25)).alloc (.cells #[.slice none 0 0, .slice none 0 0] 25)) wx hb h1 h2 n m)
  case first =>
    go_region
    all_goals (go_wp2_with fail; go_meet)
    all_goals go_light
    all_goals (first | exact made_blh _ _ n m (by simp) | exact made_bhl _ _ n m (by simp) | exact made_lbh _ _ n m (by simp) | exact made_lhb _ _ n m (by simp) | exact made_hbl _ _ n m (by simp) | exact made_hlb _ _ n m (by simp))
  case rest =>
    obtain ⟨hb, h1, h2, rfl, M⟩ := hcut
    obtain ⟨W0, hW0⟩ : ∃ W0, W0 = (((w.alloc (.cells #[.slice (some ⟨g1, 0, none⟩) n n, .slice (some ⟨g2, 0, none⟩) m m] 25)).alloc (.cells #[.slice (some ⟨g3, 0, none⟩) n n, .slice (some ⟨g4, 0, none⟩) n n] 25)).alloc (.cells #[.slice none 0 0, .slice none 0 0] 25)) := ⟨_, rfl⟩
    have hsz : W0.heap.size = w.heap.size + 3 := by rw [hW0]; simp
    rw [← hW0] at M
    have HW0 : Hid (W0 = (((w.alloc (.cells #[.slice (some ⟨g1, 0, none⟩) n n, .slice (some ⟨g2, 0, none⟩) m m] 25)).alloc (.cells #[.slice (some ⟨g3, 0, none⟩) n n, .slice (some ⟨g4, 0, none⟩) n n] 25)).alloc (.cells #[.slice none 0 0, .slice none 0 0] 25))) := hW0
    have HS : Hid (W0.heap.size = w.heap.size + 3) := hsz
    have M0 : SectAt W0 wc hb h1 h2 n m (fun j => mx (f1 j) (f3 j)) (fun j => mn (f2 j) (f4 j)) 0 := ⟨by rw [hsz]; exact M.bel, by simpa using M.r1, by simpa using M.r2, M.bx⟩
    have n1 := M.n1
    have n2 := M.n2
    have d1 := M.d1
    have d2 := M.d2
    have d3 := M.d3
    have HB : Hid (Below (w.heap.size + 3) W0 wc) := M.bel
    have c0 : wc.cell? ⟨w.heap.size, 0, none⟩ = some (.slice (some ⟨g1, 0, none⟩) n n) := by
      have := M.bel; rw [hW0] at this; rw [cell_blk (boxes this).1]; rfl
    clear hmk hmk' hW0 hsz M
    go_wp2
    go_loopw [19] (fun i wr => ∃ k : Nat, k ≤ n ∧ i = .int .i64 k ∧ SectAt W0 wr hb h1 h2 n m (fun j => mx (f1 j) (f3 j)) (fun j => mn (f2 j) (f4 j)) k) (fun i _ => n - (intOf i).toNat)
    case atStart => exact ⟨0, Nat.zero_le _, rfl, M0⟩
    case round =>
      clear c0 M0 HB
      obtain ⟨k, hk, rfl, S⟩ := hrel
      have B3 := S.bel
      rw [HS.out, HW0.out] at B3
      obtain ⟨b0, b1, b2, bw⟩ := boxes B3
      have c0 := cell_blk b0 0
      have c1 := cell_blk b0 1
      have c2 := cell_blk b1 0
      have c3 := cell_blk b1 1
      have c4 := cell_blk S.bx 0
      have c5 := cell_blk S.bx 1
      simp at c0 c1 c2 c3 c4 c5
      by_cases hlt : k < n
      · have a1 := (bw.cell (p := ⟨g1, k, none⟩) (World.block_lt_of_cell? _ _ (r1 k hlt))).trans (r1 k hlt)
        have a2 := (bw.cell (p := ⟨g2, k, none⟩) (World.block_lt_of_cell? _ _ (r2 k hlt))).trans (r2 k hlt)
        have a3 := (bw.cell (p := ⟨g3, k, none⟩) (World.block_lt_of_cell? _ _ (r3 k hlt))).trans (r3 k hlt)
        have a4 := (bw.cell (p := ⟨g4, k, none⟩) (World.block_lt_of_cell? _ _ (r4 k hlt))).trans (r4 k hlt)
        have e1 := S.r1.cell hlt
        have e2 := S.r2.cell (i := k) (by omega)
        have z1 := S.r1.frozen k
        have z2 := S.r2.frozen k
        simp at e1 e2
        have hltm : (k : Int) < (m : Int) := by omega
        have o1 := World.block_lt_of_cell? _ _ (r1 k hlt)
        have o2 := World.block_lt_of_cell? _ _ (r2 k hlt)
        have o3 := World.block_lt_of_cell? _ _ (r3 k hlt)
        have o4 := World.block_lt_of_cell? _ _ (r4 k hlt)
        simp only at o1 o2 o3 o4
        have q1 : h1 ≠ g1 := by omega
        have q2 : h1 ≠ g2 := by omega
        have q3 : h1 ≠ g3 := by omega
        have q4 : h1 ≠ g4 := by omega
        have q5 : h1 ≠ w.heap.size := by omega
        have q6 : h1 ≠ w.heap.size + 1 := by omega
        have q7 : h2 ≠ g1 := by omega
        have q8 : h2 ≠ g2 := by omega
        have q9 : h2 ≠ g3 := by omega
        have q10 : h2 ≠ g4 := by omega
        have q11 : h2 ≠ w.heap.size := by omega
        have q12 : h2 ≠ w.heap.size + 1 := by omega
        have T := S.step (by rw [HS.out]; exact n1) (by rw [HS.out]; exact n2) d1 d2 d3
        have HT : Hid _ := T
        clear T B3 b0 b1 b2 bw r1 r2 r3 r4 S
        go_wp2_with fail
        go_region_held (fun w' => w'.cell? ⟨hb, 0, none⟩ = some (.slice (some ⟨h1, 0, none⟩) n n) ∧ w'.cell? ⟨hb, 1, none⟩ = some (.slice (some ⟨h2, 0, none⟩) m m) ∧ w'.cell? ⟨w.heap.size, 0, none⟩ = some (.slice (some ⟨g1, 0, none⟩) n n) ∧ w'.cell? ⟨w.heap.size, 1, none⟩ = some (.slice (some ⟨g2, 0, none⟩) m m) ∧ w'.cell? ⟨w.heap.size + 1, 0, none⟩ = some (.slice (some ⟨g3, 0, none⟩) n n) ∧ w'.cell? ⟨w.heap.size + 1, 1, none⟩ = some (.slice (some ⟨g4, 0, none⟩) n n) ∧ w'.cell? ⟨g1, k, none⟩ = some (.int .u64 (f1 k)) ∧ w'.cell? ⟨g2, k, none⟩ = some (.int .u64 (f2 k)) ∧ w'.cell? ⟨g3, k, none⟩ = some (.int .u64 (f3 k)) ∧ w'.cell? ⟨g4, k, none⟩ = some (.int .u64 (f4 k))) (go_keep) (fail)
        all_goals
          go_wp2
          go_roundw
          case rel =>
            exact ⟨k + 1, by omega, by go_num, HT.out⟩
          case measure => simp [intOf]; omega
      · obtain rfl : k = n := by omega
        have c6 := cell_blk b2 0
        have c7 := cell_blk b2 1
        simp at c6 c7
        have z6 := free_blk b2 0
        have z7 := free_blk b2 1
        clear b0 b1 B3 r1 r2 r3 r4
        go_wp2
        have x1 : h1 ≠ w.heap.size + 1 + 1 := by omega
        have x2 : h2 ≠ w.heap.size + 1 + 1 := by omega
        refine bodyPost_ret (v := .agg #[.slice (some ⟨h1, 0, none⟩) k k, .slice (some ⟨h2, 0, none⟩) m m]) (by simp [results, Yba.results8, go_sem, c6, c7]) rfl ⟨h1, h2, rfl, by omega, by omega, d1, ?_, ?_, ?_⟩
        · exact ((S.r1.setOther (a := ⟨w.heap.size + 1 + 1, 0, none⟩) x1 _).setOther (a := ⟨w.heap.size + 1 + 1, 1, none⟩) x1 _).congr fun j hj => by simp [hj]
        · exact (S.r2.setOther (a := ⟨w.heap.size + 1 + 1, 0, none⟩) x2 _).setOther (a := ⟨w.heap.size + 1 + 1, 1, none⟩) x2 _
        · exact (bw.setCell (p := ⟨w.heap.size + 1 + 1, 0, none⟩) (by simp only; omega) _).setCell (p := ⟨w.heap.size + 1 + 1, 1, none⟩) (by simp only; omega) _
end Go.Proofs.Ybulkexa
