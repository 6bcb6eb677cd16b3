/- THE WALKS of 'record.LawS0285BLine'. -/
import Derived.Test.YbulkewmDoorRows
import Derived.WalkKit
import Derived.WalkSpells
import Derived.WalkLawsBesides
import Derived.Deep.Light
namespace Go.Proofs.YbulkewmDoor
open Go.RowKit

set_option maxRecDepth 100000 in
set_option maxHeartbeats 400000 in
theorem line_long (a : Option Addr) (len cap : Nat) (w : World) (h : 1024 < len) (hm : len ≤ maxLen) :
    Calls Ybad.prog 4 #[.slice a len cap] w fun e w' => e = .returned (.bool true) ∧ Below w.heap.size w w' := by
  unfold maxLen at hm
  go_enter Ybad.func4, Ybad.ntmps4
  go_wp2
  go_ret
  exact ⟨rfl, Below.refl _ _⟩

set_option maxRecDepth 100000 in
set_option maxHeartbeats 1000000 in
theorem line_row (b off len cap : Nat) (zs : List Int) (w : World) (h : len ≤ 1024) (hz : len ≤ zs.length) (hb : b < w.heap.size)
    (hc : ∀ i, i < len → w.cell? ⟨b, off + i, none⟩ = some (.int .u8 (zs.getD i 0))) (hwf : ∀ i, 0 ≤ zs.getD i 0 ∧ zs.getD i 0 ≤ 255) :
    Calls Ybad.prog 4 #[.slice (some ⟨b, off, none⟩) len cap] w fun e w' => e = .returned (.bool true) ∧ Below w.heap.size w w' := by
  go_enter Ybad.func4, Ybad.ntmps4
  go_wp2
  go_loopw [4] (fun i wr => ∃ (k : Nat) (s : Int), k ≤ len ∧ i = .int .i64 k ∧ (s = 0 ∨ s = 1) ∧ wr = w.alloc (.cells #[.int .i64 s, .int .i64 0, .int .i64 k, .int .i64 k, .bool false, .bool false, .int .i64 0, .int .u8 0, .int .u8 0, .int .u8 0, .int .u8 0, .int .i64 0, .bool false, .bool false, .pointer none] 29)) (fun i _ => len - (intOf i).toNat)
  case atStart => exact ⟨0, 0, Nat.zero_le _, rfl, .inl rfl, rfl⟩
  case round =>
    obtain ⟨k, s, hk, rfl, hs, rfl⟩ := hrel
    by_cases hlt : k < len
    · have hck := hc k hlt
      obtain ⟨z, hzz⟩ : ∃ z, z = zs.getD k 0 := ⟨_, rfl⟩
      have hwk := hwf k
      rw [← hzz] at hck hwk
      obtain ⟨z0, z1⟩ := hwk
      clear hc hwf hzz
      have hm : z % 5 = 0 ∨ z % 5 = 1 ∨ z % 5 = 2 ∨ z % 5 = 3 ∨ z % 5 = 4 := by omega
      rcases hs with rfl | rfl
      all_goals
        rcases hm with hm | hm | hm | hm | hm
        rotate_left 2
        · go_wp2
          go_ret
          refine ⟨rfl, ?_⟩
          exact (Below.refl _ _).alloc (Nat.le_refl _) _
        all_goals
          go_wp2
          go_roundw
          case rel => first | (refine ⟨k + 1, 1, by omega, by go_num, .inr rfl, ?_⟩; rw [Int.natCast_succ]; done) | (refine ⟨k + 1, 0, by omega, by go_num, .inl rfl, ?_⟩; rw [Int.natCast_succ]; done)
          case measure => simp [intOf]; omega
    · obtain rfl : k = len := by omega
      go_wp2
      go_ret
      exact ⟨rfl, (Below.refl _ _).alloc (Nat.le_refl _) _⟩

set_option maxRecDepth 100000 in
set_option maxHeartbeats 400000 in
theorem line_empty (a : Option Addr) (cap : Nat) (w : World) :
    Calls Ybad.prog 4 #[.slice a 0 cap] w fun e w' => e = .returned (.bool true) ∧ Below w.heap.size w w' := by
  go_enter Ybad.func4, Ybad.ntmps4
  go_wp2
  refine wp_loop_rounds 1 ?_
  rw [rounds_succ]
  go_wp2
  go_ret
  exact ⟨rfl, (Below.refl _ _).alloc (Nat.le_refl _) _⟩
end Go.Proofs.YbulkewmDoor
