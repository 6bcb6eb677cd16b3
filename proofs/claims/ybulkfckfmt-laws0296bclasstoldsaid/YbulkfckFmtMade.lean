/-
  DERIVED. THE TABLES AND THE MAP THAT 'LawS0296BClass' MAKES: the words of the walk's relations. Made by an AI agent.
-/
import Derived.Test.YbulkfckFmtMap
import Derived.WalkKit
import Derived.WalkSpells
import Derived.WalkLawsBesides
import Derived.OwnWalk
import Derived.Deep.Light
import Derived.Deep.OwnRows
namespace Go.Proofs.YbulkfckFmt
open Go.RowKit Go.Deep
set_option maxRecDepth 100000

def Aux (p : Prop) : Prop := p
theorem Aux.out {p : Prop} (h : Aux p) : p := h

abbrev tabCells : Array Value := #[.pointer none, .string ⟨#[116]⟩, .slice none 0 0, .slice none 0 0, .int .i64 0]
def tabF (i : Nat) : Value := tabCells.getD i undef

theorem info40 : (Ybaf.prog.info? 40).map (fun i => (i.zero, i.size, i.bytes)) = some (some (.pointer none), 1, 8) := by kernel_rfl
theorem make_tabs (l : Nat) (hn : l ≤ 1024) (w : World) :
    (Instr.makeSlice 39 (.int .i64 ((l : Int) + 1)) (.int .i64 ((l : Int) + 1))).run Ybaf.prog w = .ok (.slice (some ⟨w.heap.size, 0, none⟩) (l + 1) (l + 1)) (w.alloc (.cells (madeCells #[.pointer none] (l + 1)) 40)) := by
  obtain ⟨i, hi, h1, h2, h3⟩ := info_parts info40
  have hb' : (i.bytes : Int) * ((l : Int) + 1) ≤ 281474976710656 := by rw [h3]; omega
  have hr := run_make (P := Ybaf.prog) w 39 40 i _ Ybaf.underlying39 hi h1 .i64 .i64 ((l : Int) + 1) ((l : Int) + 1) (by omega) (Int.le_refl _) hb' (by omega)
  have e : ((l : Int) + 1).toNat = l + 1 := by omega
  simp only [e, h2, Nat.mul_one] at hr
  exact hr

theorem tab_new (i : Nat) (hi : i < tabCells.size) : tabCells[i]? = some (tabF i) := by
  rw [Array.getElem?_eq_getElem hi]
  unfold tabF Array.getD
  rw [dif_pos hi]
  rfl

/-- What slot i of the tables holds after k rounds. -/
def slotF (N k i : Nat) : Value := if i < k then .pointer (some ⟨N + 1 + i, 0, none⟩) else .pointer none

structure Tabs (w wr : World) (n k : Nat) : Prop where
  row : wr.rowIs w.heap.size 40 n (slotF w.heap.size k)
  tab : ∀ i, i < k → wr.rowIs (w.heap.size + 1 + i) 47 5 tabF
  size : wr.heap.size = w.heap.size + 1 + k
  below : Below w.heap.size w wr
  tape : wr.tape = w.tape

theorem Tabs.start (w : World) (n : Nat) : Tabs w (w.alloc (.cells (madeCells #[.pointer none] n) 40)) n 0 :=
  ⟨(World.rowIs_made w _ n 40).congr fun i _ => by simp [slotF], fun i hi => by omega, by show (w.heap.push _).size = _; rw [Array.size_push], (Below.refl _ _).alloc (Nat.le_refl _) _, rfl⟩

theorem set_size (w : World) (a : Addr) (v : Value) : (w.setCell a v).heap.size = w.heap.size := by
  show (w.heap.modify _ _).size = _
  rw [Array.size_modify]
theorem alloc_size (w : World) (o : Obj) : (w.alloc o).heap.size = w.heap.size + 1 := by
  show (w.heap.push _).size = _
  rw [Array.size_push]

theorem Tabs.step {w wr : World} {n k : Nat} (h : Tabs w wr n k) : Tabs w ((wr.setCell ⟨w.heap.size, k, none⟩ (.pointer (some ⟨wr.heap.size, 0, none⟩))).alloc (.cells tabCells 47)) n (k + 1) := by
  have hsz := h.size
  have hb := h.below.setCell (p := ⟨w.heap.size, k, none⟩) (Nat.le_refl _) (.pointer (some ⟨wr.heap.size, 0, none⟩))
  refine ⟨((h.row.set k _).alloc _).congr fun i _ => ?_, fun i hi => ?_, ?_, hb.alloc hb.size _, h.tape⟩
  · by_cases e : i = k
    · subst e
      simp [slotF, hsz]
    · by_cases e2 : i < k
      · simp [slotF, e, e2, show i < k + 1 by omega]
      · simp [slotF, e, e2, show ¬ i < k + 1 by omega]
  · by_cases e : i < k
    · exact ((h.tab i e).setOther (by show w.heap.size + 1 + i ≠ w.heap.size; omega) _).alloc _
    · obtain rfl : i = k := by omega
      have := World.rowIs_alloc (wr.setCell ⟨w.heap.size, i, none⟩ (.pointer (some ⟨wr.heap.size, 0, none⟩))) tabCells 47 tabF tab_new
      rw [set_size, hsz] at this
      rw [hsz]
      exact this
  · rw [alloc_size, set_size]
    omega

/-- What the entries say. -/
structure Ents (N len : Nat) (B : Nat → Bool) (k : Nat) (es : Array MapEntry) : Prop where
  only : ∀ e ∈ es.toList, ∃ i, i < k ∧ B i = true ∧ e.key = .pointer (some ⟨N + 1 + i, 0, none⟩)
  all : ∀ i, i < k → B i = true → ∃ e ∈ es.toList, e.key = .pointer (some ⟨N + 1 + i, 0, none⟩)
  val : ∀ e ∈ es.toList, ∃ z, e.val = .int .i64 z
  few : es.size ≤ k

/-- Tables and map, k members met. -/
structure Mapped (w wr : World) (len : Nat) (B : Nat → Bool) (M k cnt : Nat) : Prop where
  row : wr.rowIs w.heap.size 40 (len + 1) (slotF w.heap.size (len + 1))
  tab : ∀ i, i < len + 1 → wr.rowIs (w.heap.size + 1 + i) 47 5 tabF
  spot : M = w.heap.size + 1 + (len + 1)
  size : wr.heap.size = M + 1
  below : Below w.heap.size w wr
  tape : wr.tape = w.tape
  ents : ∃ es clock, wr.heap[M]? = some (.map es clock) ∧ es.size = cnt ∧ Ents w.heap.size len B k es

theorem Mapped.start {w wr : World} {len : Nat} (B : Nat → Bool) (h : Tabs w wr (len + 1) (len + 1)) : Mapped w (wr.alloc (.map #[] 0)) len B wr.heap.size 0 0 :=
  ⟨h.row.alloc _, fun i hi => (h.tab i hi).alloc _, h.size, alloc_size _ _, h.below.alloc h.below.size _, h.tape,
    #[], 0, blk_alloc_new _ _, rfl, ⟨fun e he => by simp at he, fun i hi => by omega, fun e he => by simp at he, by simp⟩⟩

theorem Live.of_row {w : World} {b t n : Nat} {f : Nat → Value} (h : w.rowIs b t n f) : Live w ⟨b, 0, none⟩ := by
  obtain ⟨c, h1, _⟩ := h
  exact ⟨c, t, h1⟩

theorem Mapped.skip {w wr : World} {len M k cnt : Nat} {B : Nat → Bool} (h : Mapped w wr len B M k cnt) (hB : B k = false) : Mapped w wr len B M (k + 1) cnt := by
  obtain ⟨es, clock, h1, h2, h3⟩ := h.ents
  refine { h with ents := ⟨es, clock, h1, h2, ⟨fun e he => ?_, fun i hi hb => ?_, h3.val, by have := h3.few; omega⟩⟩ }
  · obtain ⟨i, q1, q2⟩ := h3.only e he
    exact ⟨i, by omega, q2⟩
  · have : i ≠ k := fun q => by subst q; rw [hB] at hb; cases hb
    exact h3.all i (by omega) hb

theorem Mapped.put {w wr : World} {len M k cnt : Nat} {B : Nat → Bool} (h : Mapped w wr len B M k cnt) (hk : k < len) (hB : B k = true) :
    ∃ w1, (Instr.mapUpdate 48 (.map (some M)) (.pointer (some ⟨w.heap.size + 1 + k, 0, none⟩)) (.int .i64 k)).run Ybaf.prog wr = .ok () w1 ∧ Mapped w w1 len B M (k + 1) (cnt + 1) := by
  obtain ⟨es, clock, h1, h2, h3⟩ := h.ents
  have hup := update_new wr M clock es ⟨w.heap.size + 1 + k, 0, none⟩ (.int .i64 k) h1 (Live.of_row (h.tab k (by omega))) (fun e he => by
    obtain ⟨i, q1, q2, q3⟩ := h3.only e he
    refine ⟨_, q3, Live.of_row (h.tab i (by omega)), fun q => ?_⟩
    injection q with q
    omega)
  refine ⟨_, hup, ?_⟩
  have hset := MapKept.heap_set (o' := .map (es.push { key := .pointer (some ⟨w.heap.size + 1 + k, 0, none⟩), val := .int .i64 k, born := clock }) (clock + 1)) h1
  have hsp := h.spot
  refine ⟨h.row.of_block (hset.2 _ (by omega)), fun i hi => (h.tab i hi).of_block (hset.2 _ (by omega)), hsp, by simpa using h.size, ?_, h.tape, _, _, hset.1, by simp [h2], ⟨fun e he => ?_, fun i hi hb => ?_, fun e he => ?_, by have := h3.few; simp; omega⟩⟩
  · exact h.below.trans ⟨rfl, rfl, rfl, by simp, fun j hj => hset.2 j (by omega)⟩
  · rcases (by simpa using he : e ∈ es ∨ e = _) with q | rfl
    · obtain ⟨i, q1, q2⟩ := h3.only e (by simpa using q)
      exact ⟨i, by omega, q2⟩
    · exact ⟨k, by omega, hB, rfl⟩
  · by_cases q : i = k
    · subst q
      exact ⟨_, by simp; exact .inr rfl, rfl⟩
    · obtain ⟨e, q1, q2⟩ := h3.all i (by omega) hb
      exact ⟨e, by simp; exact .inl (by simpa using q1), q2⟩
  · rcases (by simpa using he : e ∈ es ∨ e = _) with q | rfl
    · exact h3.val e (by simpa using q)
    · exact ⟨_, rfl⟩

/-- What the tail of the function leans on. -/
structure Ready (w wr : World) (len : Nat) (B : Nat → Bool) (m : Value) (cnt : Nat) : Prop where
  row : wr.rowIs w.heap.size 40 (len + 1) (slotF w.heap.size (len + 1))
  tab : ∀ i, i < len + 1 → wr.rowIs (w.heap.size + 1 + i) 47 5 tabF
  below : Below w.heap.size w wr
  snap : (m = .map none ∧ len = 0 ∧ cnt = 0) ∨ ∃ M es clock, m = .map (some M) ∧ wr.heap[M]? = some (.map es clock) ∧ es.size = cnt ∧ Ents w.heap.size len B len es
  few : cnt ≤ len

theorem Ready.of_mapped {w wr : World} {len M cnt : Nat} {B : Nat → Bool} (h : Mapped w wr len B M len cnt) : Ready w wr len B (.map (some M)) cnt := by
  obtain ⟨es, clock, h1, h2, h3⟩ := h.ents
  exact ⟨h.row, h.tab, h.below, .inr ⟨M, es, clock, rfl, h1, h2, h3⟩, by have := h3.few; omega⟩

theorem Ready.of_nil {w wr : World} (B : Nat → Bool) (h : Tabs w wr 1 1) : Ready w wr 0 B (.map none) 0 :=
  ⟨h.row, h.tab, h.below, .inl ⟨rfl, rfl, rfl⟩, Nat.le_refl _⟩

theorem heap_lt {w : World} {b : Nat} {o : Obj} (h : w.heap[b]? = some o) : b < w.heap.size := (Array.getElem?_eq_some_iff.1 h).1

theorem Ready.kept {w wr w2 : World} {len cnt : Nat} {B : Nat → Bool} {m : Value} (h : Ready w wr len B m cnt) (hb : Below wr.heap.size wr w2) : Ready w w2 len B m cnt := by
  refine ⟨h.row.of_block (hb.block _ h.row.lt), fun i hi => (h.tab i hi).of_block (hb.block _ (h.tab i hi).lt), h.below.trans (hb.mono h.below.size), ?_, h.few⟩
  rcases h.snap with q | ⟨M, es, clock, q1, q2, q3⟩
  · exact .inl q
  · exact .inr ⟨M, es, clock, q1, (hb.block _ (heap_lt q2)).trans q2, q3⟩

theorem Ready.inside {w wr : World} {len cnt i : Nat} {B : Nat → Bool} {m : Value} (h : Ready w wr len B m cnt) (hi : i < len) (hB : B i = true) :
    ∃ z, (Instr.lookup 48 m (.pointer (some ⟨w.heap.size + 1 + i, 0, none⟩)) true).run Ybaf.prog wr = .ok (.tuple #[.int .i64 z, .bool true]) wr := by
  rcases h.snap with ⟨_, q, _⟩ | ⟨M, es, clock, rfl, q2, q3, q4⟩
  · omega
  · obtain ⟨e, he, hr⟩ := look_in wr M clock es ⟨w.heap.size + 1 + i, 0, none⟩ q2 (Live.of_row (h.tab i (by omega))) (fun e he => by
      obtain ⟨j, r1, _, r3⟩ := q4.only e he
      exact ⟨_, r3, Live.of_row (h.tab j (by omega))⟩) (q4.all i hi hB)
    obtain ⟨z, hz⟩ := q4.val e he
    exact ⟨z, by rw [hr, hz]⟩

theorem Ready.outside {w wr : World} {len cnt i : Nat} {B : Nat → Bool} {m : Value} (h : Ready w wr len B m cnt) (hi : i < len + 1) (hB : ¬ (i < len ∧ B i = true)) :
    (Instr.lookup 48 m (.pointer (some ⟨w.heap.size + 1 + i, 0, none⟩)) true).run Ybaf.prog wr = .ok (.tuple #[.int .i64 0, .bool false]) wr := by
  rcases h.snap with ⟨rfl, _⟩ | ⟨M, es, clock, rfl, q2, q3, q4⟩
  · exact look_nil wr _ (Live.of_row (h.tab i hi))
  · refine look_out wr M clock es _ q2 (Live.of_row (h.tab i hi)) fun e he => ?_
    obtain ⟨j, r1, r2, r3⟩ := q4.only e he
    refine ⟨_, r3, Live.of_row (h.tab j (by omega)), fun q => hB ?_⟩
    injection q with q
    obtain rfl : i = j := by omega
    exact ⟨r1, r2⟩

end Go.Proofs.YbulkfckFmt
