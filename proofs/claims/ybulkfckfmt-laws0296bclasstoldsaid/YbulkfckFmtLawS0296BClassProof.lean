/-
  DERIVED. 'LawS0296BClass': THE ROW PROVED WITH fmt's TEXT TOLD, AND THE TOLD AND TIED CARD. Made by an AI agent.
-/
import Derived.Test.YbulkfckFmtCards
import Derived.Test.YbulkfckFmtTie
import Derived.Test.YbulkfckFmtClass
import Derived.ProofKit
import Derived.OpenShut
import Derived.Below
import Derived.Stop.JoinedAt
import Derived.Stop.JoinedTold
import Derived.Stop.LaidErr
import Derived.Deep.DeepWitnessRef
import Derived.Deep.Grids
import Derived.SevenTiedAt
import Derived.LaidMore
import Derived.LaidLaws
namespace Go.Proofs.YbulkfckFmt
open Go.ChangeShapes Go.WideShapes Go.ChangeAt Go.RowKit Go.Kit Go.Deep
open Go.Extern.Stop Go.Stop Go.Extern

theorem own : ownKnob Ybaf.prog.godebug = none := by kernel_rfl
theorem laidOut : laidOutB Ybaf.pinned.checked.prog = true := by kernel_rfl
theorem stopsAre : Ybaf.pinned.checked.prog.stops = Rows.lawS0296BClassRow.stops := by kernel_rfl
theorem stopKnobs : Ybaf.pinned.checked.prog.stopKnobs = [] := by kernel_rfl
theorem quiet (os : Os) : Stop.quiet Ybaf.pinned.checked.prog os := by
  intro k hk
  rw [stopKnobs] at hk
  cases hk

theorem row64 (u : TypeId) (h : Ybaf.prog.typeName? 3 u = some errName) : u = 64 :=
  typeName_ptr_named (nm := "errors.errorString") (by kernel_rfl) (by kernel_rfl) (by decide) u (h.trans (congrArg some (by decide)))

/-- The variable's name. -/
def txName : String := Rows.lawS0296BClassSpec.vars.headD ""
theorem gE : Ybaf.prog.globalNamed txName = some 0 := by kernel_rfl
theorem gT : (Ybaf.prog.globals[0]?).map (·.type) = some 50 := by kernel_rfl

set_option maxRecDepth 100000 in
/-- WHAT 'laid' GIVES: the variable holds a pointer to an errors.errorString; the block that it leads to is a plain row of cells. -/
theorem laid_one {W : World} (h : laidMet Ybaf.prog Rows.lawS0296BClassRow.laid W) :
    ∃ (a : Addr) (c : Array Value) (t : TypeId), W.var? Ybaf.prog txName = some #[.iface 64 (.pointer (some a))] ∧ W.heap[a.block]? = some (.cells c t (0, 0)) := by
  obtain ⟨ps, ⟨g0, t0, cs0, f0, p0, q0, hg0, ht0, hv0, hd0, _, e0⟩, _, hrows⟩ := h
  have hg : Ybaf.prog.globalNamed txName = some 0 := by kernel_rfl
  have ht : (Ybaf.prog.globals[0]?).map (·.type) = some 50 := by kernel_rfl
  obtain rfl := Option.some.inj (hg.symm.trans hg0)
  obtain rfl := Option.some.inj (ht.symm.trans ht0)
  subst e0
  obtain ⟨l0⟩ := cs0
  have ok0 : ∀ u v, l0 = [.iface u v] → Value.okWide Ybaf.prog W .any 0 u v := fun u v e => by
    subst e
    exact (hrows 0 0 (by simp [MemPlace.row])).2 u v (by simpa using World.var?_cell hg0 hv0 0)
  obtain ⟨a0, s0, rfl, hc0, hs0, hz0, rfl⟩ := errorString_of_trod Ybaf.underlying50 row64 Ybaf.underlying64 Ybaf.underlying66 rfl rfl Ybaf.underlying9 (by kernel_rfl) (by kernel_rfl) hd0 ok0
  obtain ⟨c0, t0, hb0⟩ := (hrows a0.block a0.off (by simp [MemPlace.row])).1
  exact ⟨a0, c0, t0, hv0, hb0⟩

theorem var_kept {W W' : World} {cs : Array Value} (h : Below W.heap.size W W') (hlt : 0 < W.heap.size) (hv : W.var? Ybaf.prog txName = some cs) : W'.var? Ybaf.prog txName = some cs := by
  have hg : Ybaf.prog.globalNamed txName = some 0 := by kernel_rfl
  unfold World.var? at hv ⊢
  simp only [hg, Option.bind_some] at hv ⊢
  rw [h.block 0 hlt]
  exact hv

set_option maxRecDepth 100000 in
theorem door (os : Os) (args : Array Value) : laidMetH Ybaf.prog Rows.lawS0296BClassRow.laid ((World.doorLaid Ybaf.prog 38 os).forCall (fun _ _ => 0) ⟨#[], args, []⟩).memory :=
  laidMetH_of_parts3 (fuel := 8) (laidMet_of_run' 8 (by kernel_rfl) (by kernel_rfl)) (by kernel_rfl) (by kernel_rfl)

/-- THE WALK, WHATEVER THE INPUT. -/
theorem class_any (F : Interp) (a : Option Addr) (len cap : Nat) (B : Nat → Bool) (p : Int) (done failed : Bool) (a0 : Addr) (c0 : Array Value) (t0 : TypeId) (w : World) (hF : F.answers w.tape) (hl : len ≤ cap) (hm : cap ≤ maxLen)
    (hn : a = none → len = 0 ∧ cap = 0) (hc : ∀ x, a = some x → ∀ i, i < cap → w.cell? (x.add i) = some (.bool (B i))) (wp : (Lit.int .u8 p).wf = true)
    (hg : w.cell? ⟨0, 0, none⟩ = some (.iface 64 (.pointer (some a0)))) (hs : w.heap[a0.block]? = some (.cells c0 t0 (0, 0))) :
    Calls Ybaf.prog 5 #[.slice a len cap, .int .u8 p, .bool done, .bool failed] w fun e w' => e = .returned (.bool true) ∧ Below w.heap.size w w' := by
  have hp : 0 ≤ p ∧ p ≤ 255 := by
    have e1 : IntKind.u8.min = 0 := rfl
    have e2 : IntKind.u8.max = 255 := rfl
    simpa [Lit.wf, e1, e2] using wp
  by_cases hlen : len ≤ 1024
  · cases a with
    | none =>
      obtain ⟨rfl, rfl⟩ := hn rfl
      exact class_nil F p done failed a0 c0 t0 w hF hp.1 hp.2 hg hs
    | some x =>
      by_cases h0 : len = 0
      · subst h0
        exact class_empty F x cap p done failed a0 c0 t0 w hF hp.1 hp.2 hg hs
      · obtain ⟨b, o, spot⟩ := x
        have hspot : spot = none := by simpa [Addr.add] using World.cell?_spot (hc _ rfl 0 (by omega))
        subst hspot
        exact class_row F b o len cap B p done failed a0 c0 t0 w hF hlen hp.1 hp.2 (fun i hi => by rw [← add_plain]; exact hc _ rfl i (by omega)) hg hs
  · refine (class_long a len cap _ _ _ w hlen (by unfold maxLen at hm; omega)).mono fun e w' ⟨h1, h2⟩ => ⟨h1, h2 ▸ Below.refl _ _⟩

set_option maxRecDepth 100000 in
set_option maxHeartbeats 1000000 in
theorem class_lifted (os : Os) (started : os.Started) (H : Type) (enc : TypeId × Value → H) :
    ReturnsInTold none {} Ybaf.checked os 5 .any Input.okWide ((OpenSpec.ofChange Rows.lawS0296BClassSpec).preRow enc Ybaf.prog Ybaf.f5 [] false Rows.lawS0296BClassRow.laid)
      (fun F => ((OpenSpec.ofChange Rows.lawS0296BClassSpec).at F).post enc Ybaf.prog Ybaf.f5 false true false false) (aloneAtReturn Ybaf.prog) nothingAlways := by
  refine returnsInTold_of_row (C := Ybaf.checked) (s := OpenSpec.ofChange Rows.lawS0296BClassSpec) (by kernel_rfl) own started (by kernel_rfl) Ybaf.func5
    (OpenSpec.witness_stopped_atRef (enc := enc) (C := Ybaf.checked) false (World.doorLaid Ybaf.prog 38 os) #[.slice none 0 0, .int .u8 0, .bool false, .bool false] rfl (by kernel_rfl) (by kernel_rfl) (by kernel_rfl)
      (OpenSpec.preRow_of_B rfl 8 (by kernel_rfl) (by kernel_rfl) (door os _))) ?_
  intro F W base args ds gs before _ hF hval0 hW _ _ _ hL _
  have hval : ∀ (j : Nat) t v, Ybaf.f5.params[j]? = some t → args[j]? = some v → Value.okWide Ybaf.prog W .any base t v := hval0
  have hW' := hW
  obtain ⟨p, q, hA0, hV0, rfl, hfz, hnd⟩ := hW
  have hA : DataW.TrodAll enc Ybaf.prog W 0 (fun _ => true) true Ybaf.f5.params.toList args.toList ds p := hA0
  have hV : DataW.TrodVars enc Ybaf.prog W (fun _ => true) [txName] gs q := hV0
  rw [Ybaf.params5] at hA hval
  obtain ⟨v0, vs0, d0, ds0, p0, q0, hargs, rfl, rfl, h0, r0⟩ := trodAll_cons hA
  obtain ⟨v1, vs1, d1, ds1, p1, q1, rfl, rfl, rfl, h1, r1⟩ := trodAll_cons r0
  obtain ⟨v2, vs2, d2, ds2, p2, q2, rfl, rfl, rfl, h2, r2⟩ := trodAll_cons r1
  obtain ⟨v3, vs3, d3, ds3, p3, q3, rfl, rfl, rfl, h3, r3⟩ := trodAll_cons r2
  obtain ⟨rfl, rfl, rfl⟩ := trodAll_nil r3
  obtain rfl : args = #[v0, v1, v2, v3] := by cases args; simp_all
  obtain ⟨x1, rfl, rfl, rfl, w1⟩ := open_int Ybaf.underlying5 (hval 1 5 v1 rfl rfl) h1
  obtain ⟨x2, rfl, rfl, rfl⟩ := open_bool Ybaf.underlying4 (hval 2 4 v2 rfl rfl) h2
  obtain ⟨x3, rfl, rfl, rfl⟩ := open_bool Ybaf.underlying4 (hval 3 4 v3 rfl rfl) h3
  obtain ⟨a, len, cap, rfl⟩ := okWide_slice Ybaf.underlying27 (hval 0 27 v0 rfl rfl)
  have k0 := h0
  have lt0 : ∀ x ∈ p0, x.block < W.heap.size := by obtain ⟨m, hm⟩ := k0; exact DataW.trod_lt m _ _ _ hm
  obtain ⟨B, hl, hm, hn, hc⟩ : ∃ B : Nat → Bool, len ≤ cap ∧ cap ≤ maxLen ∧ (a = none → len = 0 ∧ cap = 0) ∧ ∀ x, a = some x → ∀ i, i < cap → W.cell? (x.add i) = some (.bool (B i)) := by
    obtain ⟨fuel, hf⟩ := h0
    rcases open_bools Ybaf.underlying27 Ybaf.underlying4 (by kernel_rfl) hf with ⟨hcs, _⟩ | ⟨x, l, c, B, hcs, _, hl, hm, _, hcell⟩
    · simp [Value.cells] at hcs
      obtain ⟨rfl, rfl, rfl⟩ := hcs
      exact ⟨fun _ => false, Nat.le_refl _, Nat.zero_le _, (fun _ => ⟨rfl, rfl⟩), (fun x hx => by cases hx)⟩
    · simp [Value.cells] at hcs
      obtain ⟨rfl, rfl, rfl⟩ := hcs
      exact ⟨B, hl, hm, (fun h => by cases h), (fun y hy => by cases hy; exact hcell)⟩
  rw [MakeChecks.laidMetH_plain _ _ _ (by kernel_rfl)] at hL
  obtain ⟨a0, c0, t0, hv0, hs0⟩ := laid_one hL
  obtain ⟨rfl, rfl⟩ := hV.unique (vars_read1 enc gE gT Ybaf.underlying50 hv0 trivial _)
  have hg0 : W.cell? ⟨0, 0, none⟩ = some (.iface 64 (.pointer (some a0))) := by simpa using World.var?_cell gE hv0 0
  clear hA0 hV0 hval0
  refine (class_any F.told a len cap B x1 x2 x3 a0 c0 t0 W hF hl hm hn hc w1 hg0 hs0).mono fun e W' ⟨he, bel⟩ => ?_
  subst he
  have hz : 0 < W.heap.size := World.block_lt_of_cell? _ _ hg0
  exact ⟨_, rfl, _, _, _, [], _, [.cell 0 0], hW', trodAll_mk1 (shut_bool Ybaf.underlying4 _),
    (trodAll_cons_mk (Below.trod laidOut (by kernel_rfl) (of_decide_eq_true (by kernel_rfl)) k0 bel lt0) (trodAll_cons_mk (shut_int Ybaf.underlying5 w1) (trodAll_cons_mk (shut_bool Ybaf.underlying4 _) (trodAll_cons_mk (shut_bool Ybaf.underlying4 _) trodAll_mk0)))),
    vars_read1 enc gE gT Ybaf.underlying50 (var_kept bel hz hv0) trivial _, bel.frame _, fun h => by cases h⟩

/-- ████ THE STATEMENT: THE TOLD AND TIED CARD ████ -/
theorem class_proved : Rows.LawS0296BClassToldSaid :=
  Claim7.holds_of_told_tied_any_at .later 5 Ybaf.f5 _ _ [] _ _ _ _ _ (by kernel_rfl) rfl rfl rfl laidOut (by kernel_rfl) rfl ⟨rfl, rfl, rfl, rfl, rfl, rfl, rfl⟩ rfl rfl (by kernel_rfl) (by kernel_rfl) Ybaf.func5 (by kernel_rfl)
    (of_decide_eq_true (by kernel_rfl)) (of_decide_eq_true (by kernel_rfl)) stopsAre.symm rfl stopKnobs.symm (by kernel_rfl)
    (by kernel_rfl) (by kernel_rfl) (by kernel_rfl) (by kernel_rfl) (by kernel_rfl) (by kernel_rfl) (by kernel_rfl) (by kernel_rfl) (by kernel_rfl) rfl (by kernel_rfl) rfl rfl
    rfl rfl
    rfl (by kernel_rfl) (by kernel_rfl) (by kernel_rfl) (by decide) (by kernel_rfl) lawS0296BClass_row_tie
    (OpenClaim.moreEntering_of (by kernel_rfl) (by kernel_rfl) (by kernel_rfl) (by kernel_rfl) (by kernel_rfl) (by kernel_rfl) (by kernel_rfl) (by kernel_rfl) (by kernel_rfl) (by kernel_rfl))
    ⟨_, WideRow.started_initial, quiet _⟩
    (fun os started _ H enc _ => class_lifted os started H enc)

#print axioms class_proved
end Go.Proofs.YbulkfckFmt
