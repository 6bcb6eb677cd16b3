/-
  DERIVED. LAWS ON A MAP KEYED BY POINTERS TO NEW BLOCKS (the kit's laws on maps are for keys that are read as data). Made by an AI agent.
-/
import Derived.Test.YbulkfckFmtRows
import Derived.LaidEql
import Derived.MapKept
import Derived.WalkKit
namespace Go.Proofs.YbulkfckFmt
open Go.Extern
set_option maxRecDepth 100000

/-- The block that the pointer leads to is a plain row of cells. -/
def Live (w : World) (b : Addr) : Prop := ∃ c t, w.heap[b.block]? = some (.cells c t (0, 0))

theorem tabSize : (Ybaf.prog.info? 47).map (·.size) = some 5 := by kernel_rfl

theorem eq_ptr_same (w : World) (a : Addr) : (Op.equal 40 (.pointer (some a)) (.pointer (some a))).run Ybaf.prog w = .ok true w := by
  obtain ⟨j, hj, _⟩ := Option.map_eq_some_iff.1 tabSize
  have h : ∀ d : Nat, (Op.equalIn (d + 1) 40 (.pointer (some a)) (.pointer (some a))).run Ybaf.prog w = .ok true w := fun d => by
    simp [Op.equalIn, run_underlying Ybaf.underlying40, sizeOf, typeInfo, hj, run_sameAddr_same]
  simp [Op.equal, Op.maxDepth, h 9999]

theorem eq_ptr_other (w : World) {a b : Addr} (hne : a ≠ b) (ha : Live w a) (hb : Live w b) : (Op.equal 40 (.pointer (some a)) (.pointer (some b))).run Ybaf.prog w = .ok false w := by
  obtain ⟨j, hj, hs⟩ := Option.map_eq_some_iff.1 tabSize
  obtain ⟨ca, ta, ha⟩ := ha
  obtain ⟨cb, tb, hb⟩ := hb
  have hz : j.size ≠ 0 := by rw [hs]; decide
  have h : ∀ d : Nat, (Op.equalIn (d + 1) 40 (.pointer (some a)) (.pointer (some b))).run Ybaf.prog w = .ok false w := fun d => by
    simp [Op.equalIn, run_underlying Ybaf.underlying40, sizeOf, typeInfo, hj, hz, run_sameAddr_other w hne ha hb]
  simp [Op.equal, Op.maxDepth, h 9999]

theorem ask_none (w : World) {a : Addr} (ha : Live w a) : ∀ (es : List MapEntry) (i : Nat), (∀ e ∈ es, ∃ b, e.key = .pointer (some b) ∧ Live w b ∧ a ≠ b) →
    (Instr.findAsking 40 (.pointer (some a)) es i).run Ybaf.prog w = .ok none w
  | [], i, _ => by simp [Instr.findAsking]
  | e :: es, i, h => by
    obtain ⟨b, hk, hb, hne⟩ := h e (by simp)
    have ih := ask_none w ha es (i + 1) (fun x hx => h x (by simp [hx]))
    simp [Instr.findAsking, hk, eq_ptr_other w hne ha hb, ih]

theorem ask_some (w : World) {a : Addr} (ha : Live w a) : ∀ (es : List MapEntry) (i : Nat), (∀ e ∈ es, ∃ b, e.key = .pointer (some b) ∧ Live w b) → (∃ e ∈ es, e.key = .pointer (some a)) →
    ∃ j e, e ∈ es ∧ (Instr.findAsking 40 (.pointer (some a)) es i).run Ybaf.prog w = .ok (some (j, e.val)) w
  | [], i, _, hx => by obtain ⟨e, he, _⟩ := hx; cases he
  | e :: es, i, h, hx => by
    obtain ⟨b, hk, hb⟩ := h e (by simp)
    by_cases hne : a = b
    · subst hne
      exact ⟨i, e, by simp, by simp [Instr.findAsking, hk, eq_ptr_same w a]⟩
    · have hx' : ∃ e ∈ es, e.key = .pointer (some a) := by
        obtain ⟨x, hx, hkx⟩ := hx
        rcases List.mem_cons.1 hx with rfl | hx
        · rw [hk] at hkx; injection hkx with hkx; injection hkx with hkx; exact absurd hkx.symm hne
        · exact ⟨x, hx, hkx⟩
      obtain ⟨j, x, hm, hr⟩ := ask_some w ha es (i + 1) (fun y hy => h y (by simp [hy])) hx'
      exact ⟨j, x, by simp [hm], by simp [Instr.findAsking, hk, eq_ptr_other w hne ha hb, hr]⟩

theorem find_none (w : World) {a : Addr} (ha : Live w a) (es : List MapEntry) (h : ∀ e ∈ es, ∃ b, e.key = .pointer (some b) ∧ Live w b ∧ a ≠ b) :
    (Instr.findKey 40 (.pointer (some a)) es).run Ybaf.prog w = .ok none w := by
  cases es with
  | nil => simp [Instr.findKey, run_underlying Ybaf.underlying40, Instr.findNow]
  | cons e es => simp [Instr.findKey, run_underlying Ybaf.underlying40, Instr.findNow, Instr.sameNow, ask_none w ha (e :: es) 0 h]

theorem find_some (w : World) {a : Addr} (ha : Live w a) (es : List MapEntry) (h : ∀ e ∈ es, ∃ b, e.key = .pointer (some b) ∧ Live w b) (hx : ∃ e ∈ es, e.key = .pointer (some a)) :
    ∃ j e, e ∈ es ∧ (Instr.findKey 40 (.pointer (some a)) es).run Ybaf.prog w = .ok (some (j, e.val)) w := by
  cases es with
  | nil => obtain ⟨e, he, _⟩ := hx; cases he
  | cons e es =>
    obtain ⟨j, x, hm, hr⟩ := ask_some w ha (e :: es) 0 h hx
    exact ⟨j, x, hm, by simp [Instr.findKey, run_underlying Ybaf.underlying40, Instr.findNow, Instr.sameNow, hr]⟩

theorem check_key (w : World) (em : Bool) (a : Addr) : (Instr.checkKey em 10000 40 (.pointer (some a))).run Ybaf.prog w = .ok () w := by
  unfold Instr.checkKey
  simp [run_underlying Ybaf.underlying40]

theorem zero3 (w : World) : (zeroValue 3).run Ybaf.prog w = .ok (.int .i64 0) w := by kernel_rfl

theorem update_new (w : World) (r clock : Nat) (es : Array MapEntry) (a : Addr) (v : Value) (hb : w.heap[r]? = some (.map es clock)) (ha : Live w a) (h : ∀ e ∈ es.toList, ∃ b, e.key = .pointer (some b) ∧ Live w b ∧ a ≠ b) :
    (Instr.mapUpdate 48 (.map (some r)) (.pointer (some a)) v).run Ybaf.prog w = .ok () { w with heap := w.heap.setIfInBounds r (.map (es.push { key := .pointer (some a), val := v, born := clock }) (clock + 1)) } := by
  simp [Instr.mapUpdate, run_underlying Ybaf.underlying48, MapKept.run_getObj_map hb, check_key, find_none w ha es.toList h, MapKept.run_setObj_map _ hb]

theorem look_out (w : World) (r clock : Nat) (es : Array MapEntry) (a : Addr) (hb : w.heap[r]? = some (.map es clock)) (ha : Live w a) (h : ∀ e ∈ es.toList, ∃ b, e.key = .pointer (some b) ∧ Live w b ∧ a ≠ b) :
    (Instr.lookup 48 (.map (some r)) (.pointer (some a)) true).run Ybaf.prog w = .ok (.tuple #[.int .i64 0, .bool false]) w := by
  simp [Instr.lookup, run_underlying Ybaf.underlying48, MapKept.run_getObj_map hb, check_key, find_none w ha es.toList h]

theorem look_nil (w : World) (a : Addr) (ha : Live w a) :
    (Instr.lookup 48 (.map none) (.pointer (some a)) true).run Ybaf.prog w = .ok (.tuple #[.int .i64 0, .bool false]) w := by
  simp [Instr.lookup, run_underlying Ybaf.underlying48, check_key, find_none w ha [] (by simp)]

theorem look_in (w : World) (r clock : Nat) (es : Array MapEntry) (a : Addr) (hb : w.heap[r]? = some (.map es clock)) (ha : Live w a) (h : ∀ e ∈ es.toList, ∃ b, e.key = .pointer (some b) ∧ Live w b) (hx : ∃ e ∈ es.toList, e.key = .pointer (some a)) :
    ∃ e, e ∈ es.toList ∧ (Instr.lookup 48 (.map (some r)) (.pointer (some a)) true).run Ybaf.prog w = .ok (.tuple #[e.val, .bool true]) w := by
  obtain ⟨j, e, hm, hr⟩ := find_some w ha es.toList h hx
  exact ⟨e, hm, by simp [Instr.lookup, run_underlying Ybaf.underlying48, MapKept.run_getObj_map hb, check_key, hr]⟩

end Go.Proofs.YbulkfckFmt
