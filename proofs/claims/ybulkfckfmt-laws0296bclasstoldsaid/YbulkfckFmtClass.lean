/-
  DERIVED. THE WALK OF 'LawS0296BClass'. Made by an AI agent.
-/
import Derived.Test.YbulkfckFmtTail
import Derived.Deep.RegionWith
namespace Go.Proofs.YbulkfckFmt
open Go.RowKit Go.Deep Go.Extern.Stop Go.Stop Go.Extern
set_option maxRecDepth 100000

theorem class_long (a : Option Addr) (len cap : Nat) (p d f : Value) (w : World) (hl : ¬ len ≤ 1024) (hl2 : len ≤ 9223372036854775807) :
    Calls Ybaf.prog 5 #[.slice a len cap, p, d, f] w fun e w' => e = .returned (.bool true) ∧ w' = w := by
  go_enter Ybaf.func5, Ybaf.ntmps5
  go_wp2
  go_ret
  exact ⟨rfl, rfl⟩

set_option maxHeartbeats 4000000 in
theorem class_row (F : Interp) (b o len cap : Nat) (B : Nat → Bool) (p : Int) (done failed : Bool) (a0 : Addr) (c0 : Array Value) (t0 : TypeId) (w : World) (hF : F.answers w.tape) (hn : len ≤ 1024) (hp0 : 0 ≤ p) (hp1 : p ≤ 255)
    (hc : ∀ i, i < len → w.cell? ⟨b, o + i, none⟩ = some (.bool (B i))) (hg : w.cell? ⟨0, 0, none⟩ = some (.iface 64 (.pointer (some a0)))) (hs : w.heap[a0.block]? = some (.cells c0 t0 (0, 0))) :
    Calls Ybaf.prog 5 #[.slice (some ⟨b, o, none⟩) len cap, .int .u8 p, .bool done, .bool failed] w fun e w' => e = .returned (.bool true) ∧ Below w.heap.size w w' := by
  have hmk := make_tabs len hn
  go_enter Ybaf.func5, Ybaf.ntmps5
  go_wp2
  clear hmk
  go_loopw [11] (fun x wr => ∃ k : Nat, k ≤ len + 1 ∧ x = .int .i64 k ∧ Tabs w wr (len + 1) k) (fun x _ => len + 1 - (intOf x).toNat)
  case atStart => exact ⟨0, Nat.zero_le _, rfl, Tabs.start w _⟩
  case round =>
    obtain ⟨k, hk, rfl, hT⟩ := hrel
    by_cases hlt : k < len + 1
    · have q0 := hT.row.cell hlt
      have f0 := hT.row.frozen k
      have hki : (k : Int) < (len : Int) + 1 := by omega
      have hwr : w.heap.size < wr.heap.size := by rw [hT.size]; omega
      have hwn : w.heap.size ≠ wr.heap.size := by omega
      go_wp2
      go_roundw
      case rel =>
        go_light
        exact ⟨k + 1, by omega, by go_num, hT.step⟩
      case measure => simp [intOf]; omega
    · obtain rfl : k = len + 1 := by omega
      have hmm := @run_makeMap Ybaf.prog
      go_wp2
      clear hmm
      go_loopw [13, 14] (fun c x wz => ∃ k cnt : Nat, k ≤ len ∧ x = .int .i64 k ∧ c = .int .i64 cnt ∧ cnt ≤ k ∧ Mapped w wz len B wr.heap.size k cnt) (fun _ x _ => len - (intOf x).toNat)
      case atStart => exact ⟨0, 0, Nat.zero_le _, rfl, rfl, Nat.le_refl _, Mapped.start B hT⟩
      case round =>
        obtain ⟨k, cnt, hk, rfl, rfl, hcnt, hM⟩ := hrel
        by_cases hlt : k < len
        · have c0 := (hM.below.cell (World.block_lt_of_cell? _ _ (hc k hlt))).trans (hc k hlt)
          have c1 := hM.row.cell (i := k) (by omega)
          rw [show slotF w.heap.size (len + 1) k = .pointer (some ⟨w.heap.size + 1 + k, 0, none⟩) by simp [slotF]; omega] at c1
          have hki : (k : Int) < (len : Int) := by omega
          cases hB : B k with
          | true =>
            obtain ⟨w1, hup, hM1⟩ := hM.put hlt hB
            rw [hB] at c0
            go_wp2
            go_roundw
            case rel => exact ⟨k + 1, cnt + 1, by omega, by go_num, by go_num, by omega, hM1⟩
            case measure => simp [intOf]; omega
          | false =>
            rw [hB] at c0
            go_wp2
            go_roundw
            case rel => exact ⟨k + 1, cnt, by omega, by go_num, rfl, by omega, hM.skip hB⟩
            case measure => simp [intOf]; omega
        · obtain rfl : len = k := by omega
          have hR := Ready.of_mapped hM
          clear hM hT
          have hsz := hR.row.lt
          obtain ⟨i, hi, hil⟩ : ∃ i : Nat, p % ((len : Int) + 1) = (i : Int) ∧ i < len + 1 := ⟨(p % ((len : Int) + 1)).toNat, by have := Int.emod_nonneg p (b := (len : Int) + 1) (by omega); omega, by have := Int.emod_lt_of_pos p (b := (len : Int) + 1) (by omega); omega⟩
          have hii : (i : Int) < (len : Int) + 1 := by omega
          have r0 := hR.row.cell hil
          rw [show slotF w.heap.size (len + 1) i = .pointer (some ⟨w.heap.size + 1 + i, 0, none⟩) by simp [slotF]; omega] at r0
          have HR : Aux (Ready w wr len B _ cnt) := hR
          clear hR
          have hsz' : w.heap.size < wr.heap.size + 1 := by omega
          have hfew := HR.out.few
          have HW := HR.out.below
          have hwz := HW.size
          by_cases hil' : i < len
          · have hbw : b < w.heap.size := by have := World.block_lt_of_cell? _ _ (hc i hil'); simpa using this
            have m0 := (HW.cell (World.block_lt_of_cell? _ _ (hc i hil'))).trans (hc i hil')
            have hii' : (i : Int) < (len : Int) := by omega
            have hbl : b < wr.heap.size := by omega
            have hbl' : b < wr.heap.size + 1 := by omega
            cases done with
            | true =>
              cases failed with
              | true =>
                go_wp2_with fail
                refine (new_any _ _).mono ?_
                rintro e w1 ⟨rfl, rfl⟩
                go_wp2_with fail
                refine (chk_done HR.out hg hs _ _).mono ?_
                rintro e w4 ⟨rfl, P⟩
                have d1 := P.d
                have d2 := P.e
                have d3 := P.s
                have d4 := P.len
                have d5 := P.g
                have x1 := eql_same a0 w4
                have x2 := neq_same ⟨wr.heap.size, 0, none⟩ w4
                go_wp2_with fail
                go_ret
                exact ⟨rfl, P.below⟩
              | false =>
                go_wp2_with fail
                refine (new_any _ _).mono ?_
                rintro e w1 ⟨rfl, rfl⟩
                go_wp2_with fail
                refine (chk_done HR.out hg hs _ _).mono ?_
                rintro e w4 ⟨rfl, P⟩
                have d1 := P.d
                have d2 := P.e
                have d3 := P.s
                have d4 := P.len
                have d5 := P.g
                have x1 := eql_same a0 w4
                have x2 := neq_same ⟨wr.heap.size, 0, none⟩ w4
                go_wp2_with fail
                go_ret
                exact ⟨rfl, P.below⟩
            | false =>
              cases failed with
              | true =>
                go_wp2_with fail
                refine (new_any _ _).mono ?_
                rintro e w1 ⟨rfl, rfl⟩
                go_wp2_with fail
                refine (chk_failed HR.out hg hs F hF _).mono ?_
                rintro e w4 ⟨pb, rfl, h1, P⟩
                have d1 := P.d
                have d2 := P.e
                have d3 := P.s
                have d4 := P.len
                have d5 := P.g
                have x1 := eql_same a0 w4
                have x2 := neq_same ⟨wr.heap.size, 0, none⟩ w4
                go_wp2_with fail
                refine (is_wrap_same pb 0 _ _ h1).mono ?_
                rintro e w5 ⟨rfl, rfl⟩
                go_wp2_with fail
                refine (is_wrap_other pb 0 a0 ⟨wr.heap.size, 0, none⟩ _ _ _ _ _ h1 (fun q => P.ne (by rw [← q])) P.hc P.ha).mono ?_
                rintro e w6 ⟨rfl, rfl⟩
                go_wp2_with fail
                go_ret
                exact ⟨rfl, P.below⟩
              | false =>
                cases hB : B i with
                | true =>
                  rw [hB] at m0
                  go_wp2_with fail
                  refine (new_any _ _).mono ?_
                  rintro e w1 ⟨rfl, rfl⟩
                  go_wp2_with fail
                  refine (chk_in HR.out hg hs hil' hB).mono ?_
                  rintro e w4 ⟨rfl, P⟩
                  have d1 := P.d
                  have d2 := P.e
                  have d3 := P.s
                  have d4 := P.len
                  have d5 := P.g
                  have x1 := eql_same a0 w4
                  have x2 := neq_same ⟨wr.heap.size, 0, none⟩ w4
                  go_wp2_with fail
                  go_ret
                  exact ⟨rfl, P.below⟩
                | false =>
                  rw [hB] at m0
                  go_wp2_with fail
                  refine (new_any _ _).mono ?_
                  rintro e w1 ⟨rfl, rfl⟩
                  go_wp2_with fail
                  refine (chk_out HR.out hg hs F hF hil (fun q => by rw [hB] at q; cases q.2)).mono ?_
                  rintro e w4 ⟨pb, t, rfl, h1, h2, h3, P⟩
                  have d1 := P.d
                  have d2 := P.e
                  have d3 := P.s
                  have d4 := P.len
                  have d5 := P.g
                  have x1 := eql_same a0 w4
                  have x2 := neq_same ⟨wr.heap.size, 0, none⟩ w4
                  go_wp2_with fail
                  refine (is_other ⟨pb, 0, none⟩ a0 _ _ _ _ _ (fun q => h3 (by rw [← q])) h1 P.ha).mono ?_
                  rintro e w5 ⟨rfl, rfl⟩
                  go_wp2_with fail
                  refine (is_other ⟨pb, 0, none⟩ ⟨wr.heap.size, 0, none⟩ _ _ _ _ _ (fun q => h2 (by injection q)) h1 P.hc).mono ?_
                  rintro e w6 ⟨rfl, rfl⟩
                  go_wp2_with fail
                  go_ret
                  exact ⟨rfl, P.below⟩
          · have hii' : (len : Int) ≤ (i : Int) := by omega
            have hnn : ¬ ((i : Int) < (len : Int)) := by omega
            cases done with
            | true =>
              cases failed with
              | true =>
                go_wp2_with fail
                refine (new_any _ _).mono ?_
                rintro e w1 ⟨rfl, rfl⟩
                go_wp2_with fail
                refine (chk_done HR.out hg hs _ _).mono ?_
                rintro e w4 ⟨rfl, P⟩
                have d1 := P.d
                have d2 := P.e
                have d3 := P.s
                have d4 := P.len
                have d5 := P.g
                have x1 := eql_same a0 w4
                have x2 := neq_same ⟨wr.heap.size, 0, none⟩ w4
                go_wp2_with fail
                go_ret
                exact ⟨rfl, P.below⟩
              | false =>
                go_wp2_with fail
                refine (new_any _ _).mono ?_
                rintro e w1 ⟨rfl, rfl⟩
                go_wp2_with fail
                refine (chk_done HR.out hg hs _ _).mono ?_
                rintro e w4 ⟨rfl, P⟩
                have d1 := P.d
                have d2 := P.e
                have d3 := P.s
                have d4 := P.len
                have d5 := P.g
                have x1 := eql_same a0 w4
                have x2 := neq_same ⟨wr.heap.size, 0, none⟩ w4
                go_wp2_with fail
                go_ret
                exact ⟨rfl, P.below⟩
            | false =>
              cases failed with
              | true =>
                go_wp2_with fail
                refine (new_any _ _).mono ?_
                rintro e w1 ⟨rfl, rfl⟩
                go_wp2_with fail
                refine (chk_failed HR.out hg hs F hF _).mono ?_
                rintro e w4 ⟨pb, rfl, h1, P⟩
                have d1 := P.d
                have d2 := P.e
                have d3 := P.s
                have d4 := P.len
                have d5 := P.g
                have x1 := eql_same a0 w4
                have x2 := neq_same ⟨wr.heap.size, 0, none⟩ w4
                go_wp2_with fail
                refine (is_wrap_same pb 0 _ _ h1).mono ?_
                rintro e w5 ⟨rfl, rfl⟩
                go_wp2_with fail
                refine (is_wrap_other pb 0 a0 ⟨wr.heap.size, 0, none⟩ _ _ _ _ _ h1 (fun q => P.ne (by rw [← q])) P.hc P.ha).mono ?_
                rintro e w6 ⟨rfl, rfl⟩
                go_wp2_with fail
                go_ret
                exact ⟨rfl, P.below⟩
              | false =>
                go_wp2_with fail
                refine (new_any _ _).mono ?_
                rintro e w1 ⟨rfl, rfl⟩
                go_wp2_with fail
                refine (chk_out HR.out hg hs F hF hil (fun q => by omega)).mono ?_
                rintro e w4 ⟨pb, t, rfl, h1, h2, h3, P⟩
                have d1 := P.d
                have d2 := P.e
                have d3 := P.s
                have d4 := P.len
                have d5 := P.g
                have x1 := eql_same a0 w4
                have x2 := neq_same ⟨wr.heap.size, 0, none⟩ w4
                go_wp2_with fail
                refine (is_other ⟨pb, 0, none⟩ a0 _ _ _ _ _ (fun q => h3 (by rw [← q])) h1 P.ha).mono ?_
                rintro e w5 ⟨rfl, rfl⟩
                go_wp2_with fail
                refine (is_other ⟨pb, 0, none⟩ ⟨wr.heap.size, 0, none⟩ _ _ _ _ _ (fun q => h2 (by injection q)) h1 P.hc).mono ?_
                rintro e w6 ⟨rfl, rfl⟩
                go_wp2_with fail
                go_ret
                exact ⟨rfl, P.below⟩

set_option maxHeartbeats 4000000 in
theorem class_nil (F : Interp) (p : Int) (done failed : Bool) (a0 : Addr) (c0 : Array Value) (t0 : TypeId) (w : World) (hF : F.answers w.tape) (hp0 : 0 ≤ p) (hp1 : p ≤ 255)
    (hg : w.cell? ⟨0, 0, none⟩ = some (.iface 64 (.pointer (some a0)))) (hs : w.heap[a0.block]? = some (.cells c0 t0 (0, 0))) :
    Calls Ybaf.prog 5 #[.slice none 0 0, .int .u8 p, .bool done, .bool failed] w fun e w' => e = .returned (.bool true) ∧ Below w.heap.size w w' := by
  have hmk : ∀ w, (Instr.makeSlice 39 (.int .i64 1) (.int .i64 1)).run Ybaf.prog w = .ok (.slice (some ⟨w.heap.size, 0, none⟩) 1 1) (w.alloc (.cells (madeCells #[.pointer none] 1) 40)) := fun w => make_tabs 0 (by omega) w
  go_enter Ybaf.func5, Ybaf.ntmps5
  go_wp2
  clear hmk
  go_loopw [11] (fun x wr => ∃ k : Nat, k ≤ 1 ∧ x = .int .i64 k ∧ Tabs w wr 1 k) (fun x _ => 1 - (intOf x).toNat)
  case atStart => exact ⟨0, Nat.zero_le _, rfl, Tabs.start w _⟩
  case round =>
    obtain ⟨k, hk, rfl, hT⟩ := hrel
    by_cases hlt : k < 1
    · obtain rfl : k = 0 := by omega
      have q0 := hT.row.cell hlt
      have f0 := hT.row.frozen 0
      have hwr : w.heap.size < wr.heap.size := by rw [hT.size]; omega
      have hwn : w.heap.size ≠ wr.heap.size := by omega
      go_wp2
      go_roundw
      case rel =>
        go_light
        exact ⟨1, by omega, by go_num, hT.step⟩
      case measure => simp [intOf]
    · obtain rfl : k = 1 := by omega
      have hR := Ready.of_nil (fun _ => false) hT
      clear hT
      have hsz := hR.row.lt
      have r0 : wr.cell? ⟨w.heap.size, 0, none⟩ = some (.pointer (some ⟨w.heap.size + 1, 0, none⟩)) := hR.row.cell (i := 0) (by omega)
      have HR : Aux (Ready w wr 0 (fun _ => false) (.map none) 0) := hR
      clear hR
      have hsz' : w.heap.size < wr.heap.size + 1 := by omega
      cases done with
      | true =>
        cases failed with
        | true =>
          go_wp2_with fail
          refine (new_any _ _).mono ?_
          rintro e w1 ⟨rfl, rfl⟩
          go_wp2_with fail
          refine (chk_done HR.out hg hs _ _).mono ?_
          rintro e w4 ⟨rfl, P⟩
          have d1 := P.d
          have d2 := P.e
          have d3 := P.s
          have d4 := P.len
          have d5 := P.g
          have x1 := eql_same a0 w4
          have x2 := neq_same ⟨wr.heap.size, 0, none⟩ w4
          go_wp2_with fail
          go_ret
          exact ⟨rfl, P.below⟩
        | false =>
          go_wp2_with fail
          refine (new_any _ _).mono ?_
          rintro e w1 ⟨rfl, rfl⟩
          go_wp2_with fail
          refine (chk_done HR.out hg hs _ _).mono ?_
          rintro e w4 ⟨rfl, P⟩
          have d1 := P.d
          have d2 := P.e
          have d3 := P.s
          have d4 := P.len
          have d5 := P.g
          have x1 := eql_same a0 w4
          have x2 := neq_same ⟨wr.heap.size, 0, none⟩ w4
          go_wp2_with fail
          go_ret
          exact ⟨rfl, P.below⟩
      | false =>
        cases failed with
        | true =>
          go_wp2_with fail
          refine (new_any _ _).mono ?_
          rintro e w1 ⟨rfl, rfl⟩
          go_wp2_with fail
          refine (chk_failed HR.out hg hs F hF _).mono ?_
          rintro e w4 ⟨pb, rfl, h1, P⟩
          have d1 := P.d
          have d2 := P.e
          have d3 := P.s
          have d4 := P.len
          have d5 := P.g
          have x1 := eql_same a0 w4
          have x2 := neq_same ⟨wr.heap.size, 0, none⟩ w4
          go_wp2_with fail
          refine (is_wrap_same pb 0 _ _ h1).mono ?_
          rintro e w5 ⟨rfl, rfl⟩
          go_wp2_with fail
          refine (is_wrap_other pb 0 a0 ⟨wr.heap.size, 0, none⟩ _ _ _ _ _ h1 (fun q => P.ne (by rw [← q])) P.hc P.ha).mono ?_
          rintro e w6 ⟨rfl, rfl⟩
          go_wp2_with fail
          go_ret
          exact ⟨rfl, P.below⟩
        | false =>
          go_wp2_with fail
          refine (new_any _ _).mono ?_
          rintro e w1 ⟨rfl, rfl⟩
          go_wp2_with fail
          refine (chk_out (i := 0) HR.out hg hs F hF (by omega) (fun q => by omega)).mono ?_
          rintro e w4 ⟨pb, t, rfl, h1, h2, h3, P⟩
          have d1 := P.d
          have d2 := P.e
          have d3 := P.s
          have d4 := P.len
          have d5 := P.g
          have x1 := eql_same a0 w4
          have x2 := neq_same ⟨wr.heap.size, 0, none⟩ w4
          go_wp2_with fail
          refine (is_other ⟨pb, 0, none⟩ a0 _ _ _ _ _ (fun q => h3 (by rw [← q])) h1 P.ha).mono ?_
          rintro e w5 ⟨rfl, rfl⟩
          go_wp2_with fail
          refine (is_other ⟨pb, 0, none⟩ ⟨wr.heap.size, 0, none⟩ _ _ _ _ _ (fun q => h2 (by injection q)) h1 P.hc).mono ?_
          rintro e w6 ⟨rfl, rfl⟩
          go_wp2_with fail
          go_ret
          exact ⟨rfl, P.below⟩

set_option maxHeartbeats 4000000 in
theorem class_empty (F : Interp) (a : Addr) (cap : Nat) (p : Int) (done failed : Bool) (a0 : Addr) (c0 : Array Value) (t0 : TypeId) (w : World) (hF : F.answers w.tape) (hp0 : 0 ≤ p) (hp1 : p ≤ 255)
    (hg : w.cell? ⟨0, 0, none⟩ = some (.iface 64 (.pointer (some a0)))) (hs : w.heap[a0.block]? = some (.cells c0 t0 (0, 0))) :
    Calls Ybaf.prog 5 #[.slice (some a) 0 cap, .int .u8 p, .bool done, .bool failed] w fun e w' => e = .returned (.bool true) ∧ Below w.heap.size w w' := by
  have hmk : ∀ w, (Instr.makeSlice 39 (.int .i64 1) (.int .i64 1)).run Ybaf.prog w = .ok (.slice (some ⟨w.heap.size, 0, none⟩) 1 1) (w.alloc (.cells (madeCells #[.pointer none] 1) 40)) := fun w => make_tabs 0 (by omega) w
  go_enter Ybaf.func5, Ybaf.ntmps5
  go_wp2
  clear hmk
  go_loopw [11] (fun x wr => ∃ k : Nat, k ≤ 1 ∧ x = .int .i64 k ∧ Tabs w wr 1 k) (fun x _ => 1 - (intOf x).toNat)
  case atStart => exact ⟨0, Nat.zero_le _, rfl, Tabs.start w _⟩
  case round =>
    obtain ⟨k, hk, rfl, hT⟩ := hrel
    by_cases hlt : k < 1
    · obtain rfl : k = 0 := by omega
      have q0 := hT.row.cell hlt
      have f0 := hT.row.frozen 0
      have hwr : w.heap.size < wr.heap.size := by rw [hT.size]; omega
      have hwn : w.heap.size ≠ wr.heap.size := by omega
      go_wp2
      go_roundw
      case rel =>
        go_light
        exact ⟨1, by omega, by go_num, hT.step⟩
      case measure => simp [intOf]
    · obtain rfl : k = 1 := by omega
      have hmm := @run_makeMap Ybaf.prog
      go_wp2
      clear hmm
      go_loopw [13, 14] (fun c x wz => x = .int .i64 0 ∧ c = .int .i64 0 ∧ Mapped w wz 0 (fun _ => false) wr.heap.size 0 0) (fun _ _ _ => 0)
      case atStart => exact ⟨rfl, rfl, Mapped.start _ hT⟩
      case round =>
        obtain ⟨rfl, rfl, hM⟩ := hrel
        have hR := Ready.of_mapped hM
        clear hM hT
        have hsz := hR.row.lt
        have r0 : wr.cell? ⟨w.heap.size, 0, none⟩ = some (.pointer (some ⟨w.heap.size + 1, 0, none⟩)) := hR.row.cell (i := 0) (by omega)
        have HR : Aux (Ready w wr 0 (fun _ => false) _ 0) := hR
        clear hR
        have hsz' : w.heap.size < wr.heap.size + 1 := by omega
        cases done with
        | true =>
          cases failed with
          | true =>
            go_wp2_with fail
            refine (new_any _ _).mono ?_
            rintro e w1 ⟨rfl, rfl⟩
            go_wp2_with fail
            refine (chk_done HR.out hg hs _ _).mono ?_
            rintro e w4 ⟨rfl, P⟩
            have d1 := P.d
            have d2 := P.e
            have d3 := P.s
            have d4 := P.len
            have d5 := P.g
            have x1 := eql_same a0 w4
            have x2 := neq_same ⟨wr.heap.size, 0, none⟩ w4
            go_wp2_with fail
            go_ret
            exact ⟨rfl, P.below⟩
          | false =>
            go_wp2_with fail
            refine (new_any _ _).mono ?_
            rintro e w1 ⟨rfl, rfl⟩
            go_wp2_with fail
            refine (chk_done HR.out hg hs _ _).mono ?_
            rintro e w4 ⟨rfl, P⟩
            have d1 := P.d
            have d2 := P.e
            have d3 := P.s
            have d4 := P.len
            have d5 := P.g
            have x1 := eql_same a0 w4
            have x2 := neq_same ⟨wr.heap.size, 0, none⟩ w4
            go_wp2_with fail
            go_ret
            exact ⟨rfl, P.below⟩
        | false =>
          cases failed with
          | true =>
            go_wp2_with fail
            refine (new_any _ _).mono ?_
            rintro e w1 ⟨rfl, rfl⟩
            go_wp2_with fail
            refine (chk_failed HR.out hg hs F hF _).mono ?_
            rintro e w4 ⟨pb, rfl, h1, P⟩
            have d1 := P.d
            have d2 := P.e
            have d3 := P.s
            have d4 := P.len
            have d5 := P.g
            have x1 := eql_same a0 w4
            have x2 := neq_same ⟨wr.heap.size, 0, none⟩ w4
            go_wp2_with fail
            refine (is_wrap_same pb 0 _ _ h1).mono ?_
            rintro e w5 ⟨rfl, rfl⟩
            go_wp2_with fail
            refine (is_wrap_other pb 0 a0 ⟨wr.heap.size, 0, none⟩ _ _ _ _ _ h1 (fun q => P.ne (by rw [← q])) P.hc P.ha).mono ?_
            rintro e w6 ⟨rfl, rfl⟩
            go_wp2_with fail
            go_ret
            exact ⟨rfl, P.below⟩
          | false =>
            go_wp2_with fail
            refine (new_any _ _).mono ?_
            rintro e w1 ⟨rfl, rfl⟩
            go_wp2_with fail
            refine (chk_out (i := 0) HR.out hg hs F hF (by omega) (fun q => by omega)).mono ?_
            rintro e w4 ⟨pb, t, rfl, h1, h2, h3, P⟩
            have d1 := P.d
            have d2 := P.e
            have d3 := P.s
            have d4 := P.len
            have d5 := P.g
            have x1 := eql_same a0 w4
            have x2 := neq_same ⟨wr.heap.size, 0, none⟩ w4
            go_wp2_with fail
            refine (is_other ⟨pb, 0, none⟩ a0 _ _ _ _ _ (fun q => h3 (by rw [← q])) h1 P.ha).mono ?_
            rintro e w5 ⟨rfl, rfl⟩
            go_wp2_with fail
            refine (is_other ⟨pb, 0, none⟩ ⟨wr.heap.size, 0, none⟩ _ _ _ _ _ (fun q => h2 (by injection q)) h1 P.hc).mono ?_
            rintro e w6 ⟨rfl, rfl⟩
            go_wp2_with fail
            go_ret
            exact ⟨rfl, P.below⟩

end Go.Proofs.YbulkfckFmt
