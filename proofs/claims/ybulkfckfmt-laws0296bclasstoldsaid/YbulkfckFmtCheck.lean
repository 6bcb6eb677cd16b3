/-
  DERIVED. THE CONTRACTS OF '(*Tx).check'. Made by an AI agent.
-/
import Derived.Test.YbulkfckFmtFacts
import Derived.WalkKit
import Derived.RowKitTokens
import Derived.WalkSpells
namespace Go.Proofs.YbulkfckFmt
open Go.RowKit Go.Extern.Stop Go.Stop Go.Extern
set_option maxRecDepth 100000
attribute [local go_sem] call19 fguard fmt0 fmt0r fmt1 fmt1r op9_115w ptr64 elem64 isError64' ptr81 elem81 isError81'

theorem check_done (X : Nat) (tv : Option Addr) (a0 : Addr) (w : World) (hd : w.cell? ⟨X, 3, none⟩ = some (.bool true)) (hg : w.cell? ⟨0, 0, none⟩ = some (.iface 64 (.pointer (some a0)))) :
    Calls Ybaf.prog 9 #[.pointer (some ⟨X, 0, none⟩), .pointer tv] w fun e w' => e = .returned (.iface 64 (.pointer (some a0))) ∧ w' = w := by
  go_enter Ybaf.func9, Ybaf.ntmps9
  go_wp2
  go_ret
  exact ⟨rfl, rfl⟩

theorem check_failed (F : Interp) (X : Nat) (tv : Option Addr) (c : Addr) (s : ByteArray) (w : World) (hF : F.answers w.tape) (hd : w.cell? ⟨X, 3, none⟩ = some (.bool false)) (he : w.cell? ⟨X, 4, none⟩ = some (.iface 64 (.pointer (some c))))
    (hs : (w.alloc (.cells #[.iface 64 (.pointer (some c))] 20)).cell? c = some (.string s)) :
    Calls Ybaf.prog 9 #[.pointer (some ⟨X, 0, none⟩), .pointer tv] w fun e w' => e = .returned (.iface 81 (.pointer (some ⟨w.heap.size + 1, 0, none⟩))) ∧
      ∃ t : ByteArray, w' = ((w.alloc (.cells #[.iface 64 (.pointer (some c))] 20)).alloc (.cells #[.string t, .iface 64 (.pointer (some c))] 137)).drew := by
  have hF' := answers_open hF
  have hop := opPlain64_119w "fmt.errorf" c s _ hs
  go_enter Ybaf.func9, Ybaf.ntmps9
  go_wp2
  go_ret
  exact ⟨rfl, _, rfl⟩

theorem check_in (X : Nat) (tb : Addr) (m v : Value) (w : World) (hd : w.cell? ⟨X, 3, none⟩ = some (.bool false)) (he : w.cell? ⟨X, 4, none⟩ = some .nilIface) (hm : w.cell? ⟨X, 5, none⟩ = some m)
    (hl : (Instr.lookup 48 m (.pointer (some tb)) true).run Ybaf.prog w = .ok (.tuple #[v, .bool true]) w) :
    Calls Ybaf.prog 9 #[.pointer (some ⟨X, 0, none⟩), .pointer (some tb)] w fun e w' => e = .returned .nilIface ∧ w' = w := by
  go_enter Ybaf.func9, Ybaf.ntmps9
  go_wp2
  go_ret
  exact ⟨rfl, rfl⟩

theorem check_out (F : Interp) (X B : Nat) (m v : Value) (s : ByteArray) (w : World) (hF : F.answers w.tape) (hd : w.cell? ⟨X, 3, none⟩ = some (.bool false)) (he : w.cell? ⟨X, 4, none⟩ = some .nilIface) (hm : w.cell? ⟨X, 5, none⟩ = some m)
    (hl : (Instr.lookup 48 m (.pointer (some ⟨B, 0, none⟩)) true).run Ybaf.prog w = .ok (.tuple #[v, .bool false]) w) (hn : w.cell? ⟨B, 1, none⟩ = some (.string s)) :
    Calls Ybaf.prog 9 #[.pointer (some ⟨X, 0, none⟩), .pointer (some ⟨B, 0, none⟩)] w fun e w' => e = .returned (.iface 64 (.pointer (some ⟨w.heap.size + 1, 0, none⟩))) ∧
      ∃ t : ByteArray, w' = ((w.alloc (.cells #[.iface 9 (.string s)] 20)).alloc (.cells #[.string t] 66)).drew := by
  have hF' := answers_open hF
  go_enter Ybaf.func9, Ybaf.ntmps9
  go_wp2
  go_ret
  exact ⟨rfl, _, rfl⟩

end Go.Proofs.YbulkfckFmt
