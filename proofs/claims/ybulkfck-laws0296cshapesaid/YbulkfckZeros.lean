/- THE CONTRACTS of the four helpers of 'query.LawS0296CShape': each reads a row of zero values and answers true. -/
import Derived.Test.YbulkfckRows
import Derived.WalkKit
import Derived.WalkSpells
import Derived.WalkLawsBesides
import Derived.Deep.Light
import Derived.Deep.OwnRows
namespace Go.Proofs.Ybulkfck
open Go.RowKit Go.Deep

set_option maxRecDepth 100000 in
set_option maxHeartbeats 400000 in
theorem ints_any (g n : Nat) (w : World) (hn : n ≤ 1024) (R : w.rowIs g 2 n (fun _ => .int .i64 0)) :
    Calls Yba.prog 5 #[.slice (some ⟨g, 0, none⟩) n n, .int .i64 n] w fun e w' => e = .returned (.bool true) ∧ w' = w := by
  go_enter Yba.func5, Yba.ntmps5
  go_wp2
  go_loop [5] (fun i => ∃ k : Nat, k ≤ n ∧ i = .int .i64 k) (fun i => n - (intOf i).toNat)
  case atStart => exact ⟨0, Nat.zero_le _, rfl⟩
  case round =>
    obtain ⟨k, hk, rfl⟩ := hrel
    by_cases hlt : k < n
    · have hc := R.cell hlt
      go_wp2
      go_round
      case rel => exact ⟨k + 1, by omega, by go_num⟩
      case measure => simp [intOf]; omega
    · go_wp2
      go_ret
      exact ⟨rfl, rfl⟩

set_option maxRecDepth 100000 in
set_option maxHeartbeats 400000 in
theorem floats_any (g n : Nat) (w : World) (hn : n ≤ 1024) (R : w.rowIs g 36 n (fun _ => .float .f64 0)) :
    Calls Yba.prog 6 #[.slice (some ⟨g, 0, none⟩) n n, .int .i64 n] w fun e w' => e = .returned (.bool true) ∧ w' = w := by
  go_enter Yba.func6, Yba.ntmps6
  go_wp2
  go_loop [5] (fun i => ∃ k : Nat, k ≤ n ∧ i = .int .i64 k) (fun i => n - (intOf i).toNat)
  case atStart => exact ⟨0, Nat.zero_le _, rfl⟩
  case round =>
    obtain ⟨k, hk, rfl⟩ := hrel
    by_cases hlt : k < n
    · have hc := R.cell hlt
      go_wp2
      go_round
      case rel => exact ⟨k + 1, by omega, by go_num⟩
      case measure => simp [intOf]; omega
    · go_wp2
      go_ret
      exact ⟨rfl, rfl⟩

set_option maxRecDepth 100000 in
set_option maxHeartbeats 400000 in
theorem strs_any (g n : Nat) (w : World) (hn : n ≤ 1024) (R : w.rowIs g 9 n (fun _ => .string ⟨#[]⟩)) :
    Calls Yba.prog 7 #[.slice (some ⟨g, 0, none⟩) n n, .int .i64 n] w fun e w' => e = .returned (.bool true) ∧ w' = w := by
  go_enter Yba.func7, Yba.ntmps7
  go_wp2
  go_loop [5] (fun i => ∃ k : Nat, k ≤ n ∧ i = .int .i64 k) (fun i => n - (intOf i).toNat)
  case atStart => exact ⟨0, Nat.zero_le _, rfl⟩
  case round =>
    obtain ⟨k, hk, rfl⟩ := hrel
    by_cases hlt : k < n
    · have hc := R.cell hlt
      go_wp2
      go_round
      case rel => exact ⟨k + 1, by omega, by go_num⟩
      case measure => simp [intOf]; omega
    · go_wp2
      go_ret
      exact ⟨rfl, rfl⟩

set_option maxRecDepth 100000 in
set_option maxHeartbeats 400000 in
theorem bools_any (g n : Nat) (w : World) (hn : n ≤ 1024) (R : w.rowIs g 4 n (fun _ => .bool false)) :
    Calls Yba.prog 8 #[.slice (some ⟨g, 0, none⟩) n n, .int .i64 n] w fun e w' => e = .returned (.bool true) ∧ w' = w := by
  go_enter Yba.func8, Yba.ntmps8
  go_wp2
  go_loop [5] (fun i => ∃ k : Nat, k ≤ n ∧ i = .int .i64 k) (fun i => n - (intOf i).toNat)
  case atStart => exact ⟨0, Nat.zero_le _, rfl⟩
  case round =>
    obtain ⟨k, hk, rfl⟩ := hrel
    by_cases hlt : k < n
    · have hc := R.cell hlt
      go_wp2
      go_round
      case rel => exact ⟨k + 1, by omega, by go_num⟩
      case measure => simp [intOf]; omega
    · go_wp2
      go_ret
      exact ⟨rfl, rfl⟩

end Go.Proofs.Ybulkfck
