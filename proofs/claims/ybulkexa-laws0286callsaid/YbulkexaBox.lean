/- THE CONTRACTS of the functions of package curve that the two laws LawS0286BExact and LawS0286BMember come to. -/
import Derived.Test.YbulkexaRows
import Derived.WalkKit
import Derived.WalkSpells
import Derived.WalkLawsBesides
import Derived.BigQuiet
import Derived.BigRegion
import Derived.Deep.Light
import Derived.Deep.OwnRows
import Derived.Laws.CopyOwn
namespace Go.Proofs.Ybulkexa
open Go.RowKit

/-- WHAT A WALK IS TOLD OF A SLICE OF INTEGERS THAT CAME IN: it is nil; or it leads to a row of 'cap' cells, the numbers 'zs', each fitting its kind. -/
def IsRow (k : IntKind) (w : World) (a : Option Addr) (len cap : Nat) (zs : List Int) : Prop :=
  (a = none ∧ len = 0 ∧ cap = 0 ∧ zs = []) ∨
  ∃ x, a = some x ∧ len ≤ cap ∧ cap ≤ maxLen ∧ zs.length = cap ∧ (∀ i, i < zs.length → w.cell? (x.add i) = some (.int k (zs.getD i 0))) ∧ ∀ n ∈ zs, (Lit.int k n).wf = true

theorem IsRow.bounds {k : IntKind} {w : World} {a : Option Addr} {len cap : Nat} {zs : List Int} (h : IsRow k w a len cap zs) : len ≤ cap ∧ cap ≤ maxLen ∧ zs.length = cap := by
  rcases h with ⟨_, rfl, rfl, rfl⟩ | ⟨x, _, h1, h2, h3, _⟩
  · exact ⟨Nat.le_refl _, Nat.zero_le _, rfl⟩
  · exact ⟨h1, h2, h3⟩

theorem info27 : (Yba.prog.info? 27).map (fun i => (i.zero, i.size, i.bytes)) = some (some (.int .u64 0), 1, 8) := by kernel_rfl
theorem size27 : (Yba.prog.info? 27).map (·.size) = some 1 := by kernel_rfl

set_option maxRecDepth 100000 in
set_option maxHeartbeats 400000 in
theorem cut_any (a : Option Addr) (len cap n : Nat) (zs : List Int) (w : World) (hr : IsRow .u64 w a len cap zs) (hn : n ≤ len) (h1 : n ≤ 1024) :
    Calls Yba.prog 7 #[.slice a len cap, .int .i64 n] w fun e w' => e = .returned (.slice (some ⟨w.heap.size, 0, none⟩) n n) ∧ w'.rowIs w.heap.size 27 n (fun j => .int .u64 (zs.getD j 0)) ∧ Below w.heap.size w w' := by
  have hmk := run_make_row' (P := Yba.prog) 22 27 (.int .u64 0) 8 Yba.underlying22 info27 rfl .i64 .i64 n (by omega) (by omega)
  obtain ⟨hcap, hcm, hzl⟩ := hr.bounds
  unfold maxLen at hcm
  have hz : n ≤ zs.length := by omega
  have hlm : (n : Int) ≤ (cap : Int) := by omega
  obtain ⟨X, hX⟩ : ∃ X, X = (zs.take n).map (Value.int .u64) := ⟨_, rfl⟩
  have HX : Hid (X = (zs.take n).map (Value.int .u64)) := hX
  have HR : Hid (IsRow .u64 w a len cap zs) := hr
  have hXl : X.length = n := by rw [hX]; simp; omega
  clear hX hr
  go_enter Yba.func7, Yba.ntmps7
  go_wp2_with (refine wpList_copy_splice rfl (.tmp 8) (.tmp 11) 22 22 rfl 27 Yba.underlying22 size27 (some ⟨w.heap.size, 0, none⟩) a n n n cap rfl rfl w.heap.size 0 (madeCells #[.int .u64 0] n).toList 27 ?hg X ?hn ?hpos ?hfit ?h1 w.heap.size w ?hb (Nat.le_refl _) ?_)
  case hg => exact heap_alloc_new _ _
  case hn => rw [hXl]; exact (Nat.min_self n).symm
  case hpos =>
    intro h0
    rcases HR.out with ⟨_, h, _⟩ | ⟨x, hx, _, _, hzc, hc, _⟩
    · omega
    · refine ⟨x, hx, fun j v hj => ?_⟩
      rw [HX.out] at hj
      simp only [List.getElem?_map, List.getElem?_take] at hj
      by_cases hjn : j < n
      · have hjz : j < zs.length := by omega
        have hc' := hc j hjz
        have hlt : (x.add j).block < w.heap.size := World.block_lt_of_cell? _ _ hc'
        rw [World.cell?_alloc_lt _ _ _ hlt, hc']
        simp [hjn, hjz] at hj
        simp [hjz, hj]
      · simp [hjn] at hj
  case hfit => simp [size_madeCells, hXl]
  case h1 => intro v hv; rw [HX.out] at hv; obtain ⟨z, _, rfl⟩ := List.mem_map.1 hv; rfl
  case hb => exact (Below.refl _ _).alloc (Nat.le_refl _) _
  intro w2 HG2 hB2
  go_wp2
  go_ret
  refine ⟨rfl, ?_, hB2⟩
  refine ⟨_, HG2.out, ?_, fun i hi => ?_⟩
  · simp [splice, hXl, size_madeCells]
  · rw [HX.out]
    have hiz : i < zs.length := by omega
    simp only [splice, List.take_zero, List.nil_append, List.getElem?_toArray]
    rw [List.getElem?_append_left (by simp; omega)]
    simp [hi, hiz]
end Go.Proofs.Ybulkexa
