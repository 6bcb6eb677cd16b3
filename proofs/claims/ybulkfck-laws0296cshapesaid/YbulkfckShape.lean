/- THE WALK of 'query.LawS0296CShape', a theorem a type. -/
import Derived.Test.YbulkfckZeros
namespace Go.Proofs.Ybulkfck
open Go.RowKit Go.Deep

theorem info2 : (Yba.prog.info? 2).map (fun i => (i.zero, i.size, i.bytes)) = some (some (.int .i64 0), 1, 8) := by kernel_rfl
theorem info36 : (Yba.prog.info? 36).map (fun i => (i.zero, i.size, i.bytes)) = some (some (.float .f64 0), 1, 8) := by kernel_rfl
theorem info9 : (Yba.prog.info? 9).map (fun i => (i.zero, i.size, i.bytes)) = some (some (.string ⟨#[]⟩), 1, 16) := by kernel_rfl
theorem info4 : (Yba.prog.info? 4).map (fun i => (i.zero, i.size, i.bytes)) = some (some (.bool false), 1, 1) := by kernel_rfl
theorem blk_two (w : World) (o o' : Obj) : ((w.alloc o).alloc o').heap[w.heap.size + 1]? = some o' := by
  have h := blk_alloc_new (w.alloc o) o'
  rw [World.size_alloc] at h
  exact h
theorem row_made {wx : World} {h n : Nat} {z : Value} {t : TypeId} (e : wx.heap[h]? = some (.cells (madeCells #[z] n) t)) : wx.rowIs h t n (fun _ => z) :=
  ⟨_, e, size_madeCells _ _, fun i hi => by simp [madeCells, hi, Nat.mod_one]⟩

set_option maxRecDepth 100000 in
set_option maxHeartbeats 400000 in
theorem shape_out (t a : Int) (w : World) (h : a < 0 ∨ 1024 < a) :
    Calls Yba.prog 3 #[.int .u8 t, .int .i64 a] w fun e w' => e = .returned (.bool true) ∧ Below w.heap.size w w' := by
  by_cases h0 : a < 0
  · clear h
    go_enter Yba.func3, Yba.ntmps3
    go_wp2
    go_ret
    exact ⟨rfl, Below.refl _ _⟩
  · have h1 : 1024 < a := by omega
    have d0 : decide (a < 0) = false := decide_eq_false h0
    clear h
    go_enter Yba.func3, Yba.ntmps3
    go_wp2
    go_ret
    exact ⟨rfl, Below.refl _ _⟩

set_option maxRecDepth 100000 in
set_option maxHeartbeats 400000 in
theorem shape_int (n : Nat) (w : World) (hn : n ≤ 1024) :
    Calls Yba.prog 3 #[.int .u8 2, .int .i64 n] w fun e w' => e = .returned (.bool true) ∧ Below w.heap.size w w' := by
  have hmk := run_make_row' (P := Yba.prog) 26 2 (.int .i64 0) 8 Yba.underlying26 info2 rfl .i64 .i64 n (by omega) (by omega)
  have hn' : (n : Int) ≤ 1024 := by omega
  have hn0 : (0 : Int) ≤ (n : Int) := by omega
  go_enter Yba.func3, Yba.ntmps3
  go_wp2_with (go_at_call 4; go_in)
  refine (ints_any (w.heap.size + 1) n _ hn ?_).mono ?_
  · exact row_made (blk_two _ _ _)
  rintro e w' ⟨rfl, rfl⟩
  go_wp2_with fail
  go_ret
  exact ⟨rfl, ((Below.refl _ _).alloc (Nat.le_refl _) _).alloc (by simp) _⟩

set_option maxRecDepth 100000 in
set_option maxHeartbeats 400000 in
theorem shape_big (n : Nat) (w : World) (hn : n ≤ 1024) :
    Calls Yba.prog 3 #[.int .u8 3, .int .i64 n] w fun e w' => e = .returned (.bool true) ∧ Below w.heap.size w w' := by
  have hmk := run_make_row' (P := Yba.prog) 26 2 (.int .i64 0) 8 Yba.underlying26 info2 rfl .i64 .i64 n (by omega) (by omega)
  have hn' : (n : Int) ≤ 1024 := by omega
  have hn0 : (0 : Int) ≤ (n : Int) := by omega
  go_enter Yba.func3, Yba.ntmps3
  go_wp2_with (go_at_call 4; go_in)
  refine (ints_any (w.heap.size + 1) n _ hn ?_).mono ?_
  · exact row_made (blk_two _ _ _)
  rintro e w' ⟨rfl, rfl⟩
  go_wp2_with fail
  go_ret
  exact ⟨rfl, ((Below.refl _ _).alloc (Nat.le_refl _) _).alloc (by simp) _⟩

set_option maxRecDepth 100000 in
set_option maxHeartbeats 400000 in
theorem shape_double (n : Nat) (w : World) (hn : n ≤ 1024) :
    Calls Yba.prog 3 #[.int .u8 4, .int .i64 n] w fun e w' => e = .returned (.bool true) ∧ Below w.heap.size w w' := by
  have hmk := run_make_row' (P := Yba.prog) 27 36 (.float .f64 0) 8 Yba.underlying27 info36 rfl .i64 .i64 n (by omega) (by omega)
  have hn' : (n : Int) ≤ 1024 := by omega
  have hn0 : (0 : Int) ≤ (n : Int) := by omega
  go_enter Yba.func3, Yba.ntmps3
  go_wp2_with (go_at_call 4; go_in)
  refine (floats_any (w.heap.size + 1) n _ hn ?_).mono ?_
  · exact row_made (blk_two _ _ _)
  rintro e w' ⟨rfl, rfl⟩
  go_wp2_with fail
  go_ret
  exact ⟨rfl, ((Below.refl _ _).alloc (Nat.le_refl _) _).alloc (by simp) _⟩

set_option maxRecDepth 100000 in
set_option maxHeartbeats 400000 in
theorem shape_varchar (n : Nat) (w : World) (hn : n ≤ 1024) :
    Calls Yba.prog 3 #[.int .u8 5, .int .i64 n] w fun e w' => e = .returned (.bool true) ∧ Below w.heap.size w w' := by
  have hmk := run_make_row' (P := Yba.prog) 28 9 (.string ⟨#[]⟩) 16 Yba.underlying28 info9 rfl .i64 .i64 n (by omega) (by omega)
  have hn' : (n : Int) ≤ 1024 := by omega
  have hn0 : (0 : Int) ≤ (n : Int) := by omega
  go_enter Yba.func3, Yba.ntmps3
  go_wp2_with (go_at_call 4; go_in)
  refine (strs_any (w.heap.size + 1) n _ hn ?_).mono ?_
  · exact row_made (blk_two _ _ _)
  rintro e w' ⟨rfl, rfl⟩
  go_wp2_with fail
  go_ret
  exact ⟨rfl, ((Below.refl _ _).alloc (Nat.le_refl _) _).alloc (by simp) _⟩

set_option maxRecDepth 100000 in
set_option maxHeartbeats 400000 in
theorem shape_boolean (n : Nat) (w : World) (hn : n ≤ 1024) :
    Calls Yba.prog 3 #[.int .u8 1, .int .i64 n] w fun e w' => e = .returned (.bool true) ∧ Below w.heap.size w w' := by
  have hmk := run_make_row' (P := Yba.prog) 25 4 (.bool false) 1 Yba.underlying25 info4 rfl .i64 .i64 n (by omega) (by omega)
  have hn' : (n : Int) ≤ 1024 := by omega
  have hn0 : (0 : Int) ≤ (n : Int) := by omega
  go_enter Yba.func3, Yba.ntmps3
  go_wp2_with (go_at_call 4; go_in)
  refine (bools_any (w.heap.size + 1) n _ hn ?_).mono ?_
  · exact row_made (blk_two _ _ _)
  rintro e w' ⟨rfl, rfl⟩
  go_wp2_with fail
  go_ret
  exact ⟨rfl, ((Below.refl _ _).alloc (Nat.le_refl _) _).alloc (by simp) _⟩

set_option maxRecDepth 100000 in
set_option maxHeartbeats 400000 in
theorem shape_other (t : Int) (n : Nat) (w : World) (hn : n ≤ 1024) (t1 : (t == 1) = false) (t2 : (t == 2) = false) (t3 : (t == 3) = false) (t4 : (t == 4) = false) (t5 : (t == 5) = false) :
    Calls Yba.prog 3 #[.int .u8 t, .int .i64 n] w fun e w' => e = .returned (.bool true) ∧ Below w.heap.size w w' := by
  have hn' : (n : Int) ≤ 1024 := by omega
  have hn0 : (0 : Int) ≤ (n : Int) := by omega
  go_enter Yba.func3, Yba.ntmps3
  go_wp2_with (go_at_call 4; go_in)
  go_ret
  exact ⟨rfl, (Below.refl _ _).alloc (Nat.le_refl _) _⟩
end Go.Proofs.Ybulkfck
