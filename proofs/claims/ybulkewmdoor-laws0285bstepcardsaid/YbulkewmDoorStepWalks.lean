/- THE WALKS of 'record.LawS0285BStep': one theorem a branch of the case table. -/
import Derived.Test.YbulkewmDoorRows
import Derived.WalkKit
import Derived.WalkSpells
import Derived.WalkLawsBesides
import Derived.BigQuiet
import Derived.LaidEql
import Derived.Deep.Light
namespace Go.Proofs.YbulkewmDoor
open Go.RowKit

set_option maxRecDepth 100000 in
set_option maxHeartbeats 400000 in
theorem step_comma (col at' size lines : Int) (w : World) (h0 : 0 ≤ at') (h1 : at' ≤ 255) :
    Calls Ybad.prog 3 #[.int .u8 44, .int .i64 col, .int .u8 at', .int .i64 size, .int .i64 lines] w fun e w' => e = .returned (.bool true) ∧ Below w.heap.size w w' := by
  go_enter Ybad.func3, Ybad.ntmps3
  go_wp2
  go_ret
  refine ⟨rfl, ?_⟩
  go_light
  repeat (first | exact Below.refl _ _ | apply Below.drew | refine Below.setCell ?_ (by simp) _ | refine Below.alloc ?_ (by simp) _)

set_option maxRecDepth 100000 in
set_option maxHeartbeats 400000 in
theorem step_newline (col at' size lines : Int) (w : World) (h0 : 0 ≤ at') (h1 : at' ≤ 255) :
    Calls Ybad.prog 3 #[.int .u8 10, .int .i64 col, .int .u8 at', .int .i64 size, .int .i64 lines] w fun e w' => e = .returned (.bool true) ∧ Below w.heap.size w w' := by
  go_enter Ybad.func3, Ybad.ntmps3
  go_wp2
  go_ret
  refine ⟨rfl, ?_⟩
  go_light
  repeat (first | exact Below.refl _ _ | apply Below.drew | refine Below.setCell ?_ (by simp) _ | refine Below.alloc ?_ (by simp) _)

set_option maxRecDepth 100000 in
set_option maxHeartbeats 400000 in
theorem step_other (c col at' size lines : Int) (w : World) (h0 : 0 ≤ at') (h1 : at' ≤ 255) (c1 : (c == 44) = false) (c2 : (c == 10) = false) (c3 : (c == 34) = false) :
    Calls Ybad.prog 3 #[.int .u8 c, .int .i64 col, .int .u8 at', .int .i64 size, .int .i64 lines] w fun e w' => e = .returned (.bool true) ∧ Below w.heap.size w w' := by
  go_enter Ybad.func3, Ybad.ntmps3
  go_wp2
  go_ret
  refine ⟨rfl, ?_⟩
  go_light
  repeat (first | exact Below.refl _ _ | apply Below.drew | refine Below.setCell ?_ (by simp) _ | refine Below.alloc ?_ (by simp) _)

theorem comp41 : (Ybad.prog.info? 41).map (·.comparable) = some true := by kernel_rfl
theorem size61 : (Ybad.prog.info? 61).map (·.size) = some 1 := by kernel_rfl

set_option maxRecDepth 100000 in
set_option maxHeartbeats 400000 in
theorem step_quote (a : Addr) (col at' size lines : Int) (w : World) (h0 : 0 ≤ at') (h1 : at' ≤ 255) (hc : w.cell? ⟨0, 0, none⟩ = some (.iface 41 (.pointer (some a)))) (hz : 0 < w.heap.size) :
    Calls Ybad.prog 3 #[.int .u8 34, .int .i64 col, .int .u8 at', .int .i64 size, .int .i64 lines] w fun e w' => e = .returned (.bool true) ∧ Below w.heap.size w w' := by
  obtain ⟨i, hi, hcmp⟩ := Option.map_eq_some_iff.1 comp41
  obtain ⟨j, hj, _⟩ := Option.map_eq_some_iff.1 size61
  have he := fun (W : World) => run_eql_iface_ptr_same (P := Ybad.prog) W a Ybad.underlying32 Ybad.underlying41 hi hcmp hj
  clear hi hcmp hj
  go_enter Ybad.func3, Ybad.ntmps3
  go_wp2
  go_quiet (fail)
  go_wp2
  go_ret
  refine ⟨rfl, ?_⟩
  go_light
  apply below_drewN
  repeat (first | exact Below.refl _ _ | refine Below.alloc ?_ (by simp) _)
end Go.Proofs.YbulkewmDoor
