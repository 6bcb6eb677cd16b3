/- 'record.LawS0285BStep': THE ROW PROVED, AND THE TIED CARD. -/
import Derived.Test.YbulkewmDoorCards
import Derived.Test.YbulkewmDoorTie
import Derived.Test.YbulkewmDoorLaid
import Derived.Test.YbulkewmDoorStepWalks
import Derived.ProofKit
import Derived.OpenShut
import Derived.ChangeOld
import Derived.Below
import Derived.SevenTiedAt
namespace Go.Proofs.YbulkewmDoor
open Go.ChangeShapes Go.WideShapes Go.ChangeAt Go.RowKit
set_option linter.unusedVariables false

theorem step_door (os : Os) (args : Array Value) : laidMetH Ybad.prog Rows.lawS0285BStepRow.laid ((World.doorLaid Ybad.prog 47 os).forCall (fun _ _ => 0) ⟨#[], args, []⟩).memory :=
  laidMetH_of_parts3 (fuel := 8) (laidMet_of_run' 8 (by kernel_rfl) (by kernel_rfl)) (by kernel_rfl) (by kernel_rfl)

/-- THE WALK, WHATEVER THE BYTE. -/
theorem step_walk (c col at' size lines : Int) (w : World) (wc : (Lit.int .u8 c).wf = true) (wa : (Lit.int .u8 at').wf = true) (hL : laidMetH Ybad.prog Rows.lawS0285BStepRow.laid w) :
    Calls Ybad.prog 3 #[.int .u8 c, .int .i64 col, .int .u8 at', .int .i64 size, .int .i64 lines] w fun e w' => e = .returned (.bool true) ∧ Below w.heap.size w w' := by
  obtain ⟨h0, h1⟩ := bounds_u8 wa
  by_cases c1 : c = 44
  · subst c1; exact step_comma col at' size lines w h0 h1
  by_cases c2 : c = 10
  · subst c2; exact step_newline col at' size lines w h0 h1
  by_cases c3 : c = 34
  · subst c3
    rw [MakeChecks.laidMetH_plain _ _ _ (by kernel_rfl)] at hL
    obtain ⟨a, hc⟩ := bare_cell hL
    exact step_quote a col at' size lines w h0 h1 hc (Nat.lt_of_le_of_lt (Nat.zero_le _) (World.block_lt_of_cell? _ _ hc))
  · exact step_other c col at' size lines w h0 h1 (by simpa using c1) (by simpa using c2) (by simpa using c3)

set_option maxRecDepth 100000 in
theorem step_lifted (os : Os) (started : os.Started) (H : Type) (enc : TypeId × Value → H) :
    ReturnsInHanded {} Ybad.checked os 3 .any (fun w args => (Rows.lawS0285BStepSpec.pre enc Ybad.prog Ybad.f3 [] false w args ∧ laidMetH Ybad.prog Rows.lawS0285BStepRow.laid w) ∧ sizedMet enc Ybad.prog Ybad.f3 (OpenSpec.ofChange Rows.lawS0285BStepSpec) false w args)
      (Rows.lawS0285BStepSpec.post enc Ybad.prog Ybad.f3 false true false false) := by
  refine returnsInHanded_of_change_and (C := Ybad.checked) (X := fun w _ => laidMetH Ybad.prog Rows.lawS0285BStepRow.laid w) (fun _ _ _ hh h => h.of_heap hh) own started (by kernel_rfl) Ybad.func3
    (ChangeSpec.witness_shaped (enc := enc) (C := Ybad.checked) (os := os) (X := fun w _ => laidMetH Ybad.prog Rows.lawS0285BStepRow.laid w) false (World.doorLaid Ybad.prog 47 os) #[.int .u8 0, .int .i64 0, .int .u8 0, .int .i64 0, .int .i64 0] 8 rfl (World.shaped_of_RefB (by kernel_rfl) (by kernel_rfl)) (by kernel_rfl) (by kernel_rfl) (by kernel_rfl) (step_door os _)) ?_
  intro W base args ds gs before hval0 hW _ _ hL _
  have hval : ∀ (j : Nat) t v, Ybad.f3.params[j]? = some t → args[j]? = some v → Value.okWide Ybad.prog W .any base t v := hval0
  have hW' := hW
  obtain ⟨p, q, hA0, hV, rfl, hfz, hnd⟩ := hW
  have hA : DataW.TrodAll enc Ybad.prog W 0 (fun _ => true) true Ybad.f3.params.toList args.toList ds p := hA0
  rw [Ybad.params3] at hA hval
  obtain ⟨v0, vs0, d0, ds0, p0, q0, hargs, rfl, rfl, h0, r0⟩ := trodAll_cons hA
  obtain ⟨v1, vs1, d1, ds1, p1, q1, rfl, rfl, rfl, h1, r1⟩ := trodAll_cons r0
  obtain ⟨v2, vs2, d2, ds2, p2, q2, rfl, rfl, rfl, h2, r2⟩ := trodAll_cons r1
  obtain ⟨v3, vs3, d3, ds3, p3, q3, rfl, rfl, rfl, h3, r3⟩ := trodAll_cons r2
  obtain ⟨v4, vs4, d4, ds4, p4, q4, rfl, rfl, rfl, h4, r4⟩ := trodAll_cons r3
  obtain ⟨rfl, rfl, rfl⟩ := trodAll_nil r4
  obtain rfl : args = #[v0, v1, v2, v3, v4] := by cases args; simp_all
  obtain ⟨rfl, rfl⟩ := trodVars_none hV
  obtain ⟨a0, rfl, rfl, rfl, w0⟩ := open_int Ybad.underlying5 (hval 0 5 v0 rfl rfl) h0
  obtain ⟨a1, rfl, rfl, rfl, w1⟩ := open_int Ybad.underlying3 (hval 1 3 v1 rfl rfl) h1
  obtain ⟨a2, rfl, rfl, rfl, w2⟩ := open_int Ybad.underlying5 (hval 2 5 v2 rfl rfl) h2
  obtain ⟨a3, rfl, rfl, rfl, w3⟩ := open_int Ybad.underlying3 (hval 3 3 v3 rfl rfl) h3
  obtain ⟨a4, rfl, rfl, rfl, w4⟩ := open_int Ybad.underlying3 (hval 4 3 v4 rfl rfl) h4
  clear hA0 hval0
  refine (step_walk a0 a1 a2 a3 a4 W w0 w2 hL).mono fun e W' ⟨he, bel⟩ => ?_
  subst he
  exact ⟨_, rfl, _, _, _, [], _, [], hW', trodAll_mk1 (shut_bool Ybad.underlying4 _), (trodAll_cons_mk (shut_int Ybad.underlying5 w0) (trodAll_cons_mk (shut_int Ybad.underlying3 w1) (trodAll_cons_mk (shut_int Ybad.underlying5 w2) (trodAll_cons_mk (shut_int Ybad.underlying3 w3) (trodAll_cons_mk (shut_int Ybad.underlying3 w4) trodAll_mk0))))), rfl, bel.frame _, fun h => by cases h⟩

theorem step_holds : Rows.LawS0285BStepSaid :=
  OpenClaim.holds_of_wide 3 Ybad.f3 rfl rfl rfl rfl rfl rfl rfl ⟨rfl, rfl, rfl, rfl, rfl⟩ rfl rfl rfl rfl rfl (by kernel_rfl) Ybad.func3 (by kernel_rfl)
    (of_decide_eq_true (by kernel_rfl)) (by unfold Func.isWrapper; first | (rw [if_pos (by decide +kernel)]; kernel_rfl) | (rw [if_neg (by decide +kernel)]; exact ⟨rfl, rfl⟩))
    (fun os started H enc _ => step_lifted os started H enc)

/-- ████ THE STATEMENT: THE TIED CARD ████ -/
theorem step_proved : Rows.LawS0285BStepCardSaid :=
  Claim7.holds_tied_plain_at .later [] [.sentinel] true Rows.lawS0285BStepCard.stood.harness true
    step_holds (fun _ h => by cases h) (by kernel_rfl) (fun _ h => by cases h) lawS0285BStep_row_tie rfl ⟨rfl, rfl⟩ (by kernel_rfl) rfl
    (fun f fn hf hfn => by
      obtain rfl : f = 3 := Option.some.inj ((show Ybad.prog.funcNamed Rows.lawS0285BStepRow.func = some 3 by kernel_rfl).symm.trans hf) |>.symm
      obtain rfl : fn = Ybad.f3 := (Option.some.inj (Ybad.func3.symm.trans hfn)).symm
      exact ⟨by kernel_rfl, fun j t ht => by
        rw [Ybad.params3] at ht
        have hm : t ∈ [5, 3, 5, 3, 3] := by simpa using Array.mem_of_getElem? ht
        have hall : ([5, 3, 5, 3, 3].all fun u => !Ybad.prog.wantsStandIn u) = true := by kernel_rfl
        exact (show Ybad.prog.wantsStandIn t = false by simpa using List.all_eq_true.1 hall t hm)⟩)
    (by kernel_rfl)
#print axioms step_proved
end Go.Proofs.YbulkewmDoor
