/- THE CONTRACT of 'node.zzs0286cbuild'. -/
import Derived.Test.YbulkexaBox
import Derived.Test.YbulkexaParts
import Derived.OpenShut
import Derived.WideShapes
namespace Go.Proofs.Ybulkexa
open Go.RowKit Go.Deep

theorem IsRow.kept {k : IntKind} {w w' : World} {a : Option Addr} {len cap : Nat} {zs : List Int} (h : IsRow k w a len cap zs) (hb : Below w.heap.size w w') : IsRow k w' a len cap zs := by
  rcases h with h | ⟨x, h1, h2, h3, h4, h5, h6⟩
  · exact .inl h
  · exact .inr ⟨x, h1, h2, h3, h4, fun i hi => (hb.cell (World.block_lt_of_cell? _ _ (h5 i hi))).trans (h5 i hi), h6⟩
theorem IsRow.place {k : IntKind} {w : World} {a : Option Addr} {len cap : Nat} {zs : List Int} (h : IsRow k w a len cap zs) {j : Nat} (hj : j < len) :
    ∃ b o, a = some ⟨b, o, none⟩ ∧ ∀ i, i < len → w.cell? ⟨b, o + i, none⟩ = some (.int k (zs.getD i 0)) := by
  rcases h with ⟨_, rfl, _, _⟩ | ⟨x, rfl, h2, h3, h4, h5, h6⟩
  · omega
  · obtain ⟨b, off, spot⟩ := x
    have hspot : spot = none := by simpa [Addr.add] using World.cell?_spot (h5 0 (by omega))
    subst hspot
    exact ⟨b, off, rfl, fun i hi => by rw [← WideShapes.add_plain]; exact h5 i (by omega)⟩
theorem IsRow.bytes {w : World} {a : Option Addr} {len cap : Nat} {zs : List Int} (h : IsRow .u8 w a len cap zs) : ∀ j, 0 ≤ zs.getD j 0 ∧ zs.getD j 0 ≤ 255 := by
  rcases h with ⟨_, _, _, rfl⟩ | ⟨x, _, _, _, _, _, h6⟩
  · intro j; simp
  · intro j
    have := range_u8 h6 j
    simpa using this

theorem below_up' {w w1 w2 : World} (h : Below w.heap.size w w1) (k : Below w1.heap.size w1 w2) : Below w.heap.size w w2 := h.trans (k.mono h.size)

theorem info48 : (Yba.prog.info? 48).map (fun i => (i.zero, i.size, i.bytes)) = some (some (.agg #[.pointer none, .slice none 0 0, .slice none 0 0, .slice none 0 0, .int .u64 0]), 5, 88) := by kernel_rfl
theorem info56 : (Yba.prog.info? 56).map (fun i => (i.zero, i.size, i.bytes)) = some (some (.agg #[.pointer none, .pointer none]), 2, 16) := by kernel_rfl
theorem info38 : (Yba.prog.info? 38).map (fun i => (i.zero, i.size, i.bytes)) = some (some (.pointer none), 1, 8) := by kernel_rfl

/-- The n zero records that make lays. -/
def zeroRecs (n : Nat) : Obj := .cells (madeCells #[.pointer none, .slice none 0 0, .slice none 0 0, .slice none 0 0, .int .u64 0] (n * 5)) 48
theorem make_recs (n : Nat) (hn : n ≤ 1024) (w : World) :
    (Instr.makeSlice 34 (.int .i64 (n : Int)) (.int .i64 (n : Int))).run Yba.prog w = .ok (.slice (some ⟨w.heap.size, 0, none⟩) n n) (w.alloc (zeroRecs n)) := by
  obtain ⟨i, hi, h1, h2, h3⟩ := info_parts info48
  have hb' : (i.bytes : Int) * (n : Int) ≤ 281474976710656 := by rw [h3]; omega
  have hr := run_make (P := Yba.prog) w 34 48 i _ Yba.underlying34 hi h1 .i64 .i64 n n (by omega) (Int.le_refl _) hb' (by omega)
  simp only [Int.toNat_natCast, h2] at hr
  exact hr
theorem zeroRecs_row (w : World) (n : Nat) (kb : Nat → Nat) : Recs (w.alloc (zeroRecs n)) w.heap.size n kb 0 :=
  ⟨fun i => #[Value.pointer none, .slice none 0 0, .slice none 0 0, .slice none 0 0, .int .u64 0].getD (i % 5) undef,
    ⟨_, blk_alloc_new _ _, size_madeCells _ _, fun i hi => by
      have h5 : i % 5 < 5 := Nat.mod_lt _ (by omega)
      simp [madeCells, hi, Array.getD, h5]⟩, fun j hj => by omega⟩

/-- The records and their keys, whole. -/
structure Held (W : World) (rg n : Nat) (kb : Nat → Nat) (zs : List Int) : Prop where
  recs : Recs W rg n kb n
  keys : ∀ j, j < n → BigIs W (kb j) (cum zs (j + 1))
theorem Held.keeps {e : TypeId} {w w' : World} {rg n : Nat} {kb : Nat → Nat} {zs : List Int} (h : Held w rg n kb zs) (k : Keeps e w w') (h1 : 48 ≠ e) (h2 : 62 ≠ e) (h3 : 59 ≠ e) : Held w' rg n kb zs :=
  ⟨h.recs.keeps k h1, fun j hj => (h.keys j hj).keeps k h2 h3⟩

set_option maxRecDepth 100000 in
set_option maxHeartbeats 1000000 in
theorem build_flat (a0 a1 : Option Addr) (l0 c0 l1 c1 : Nat) (z0 : List Int) (fl : Bool) (w : World) (hn : l0 ≤ 1024)
    (i0 : IsRow .u8 w a0 l0 c0 z0) (hfl : fl = true ∨ l0 = 0) :
    Calls Yba.prog 11 #[.slice a0 l0 c0, .slice a1 l1 c1, .bool fl] w fun e w' => ∃ t rg kb, e = .returned (.tuple #[.pointer (some ⟨t, 0, none⟩), .slice (some ⟨rg, 0, none⟩) l0 l0, .slice none 0 0]) ∧ LeafAt w' t rg 0 l0 l0 ∧ Held w' rg l0 kb z0 ∧ Below w.heap.size w w' := by
  have hmk := make_recs l0 hn
  have hb0 := i0.bytes
  have HB : Hid (∀ j, 0 ≤ z0.getD j 0 ∧ z0.getD j 0 ≤ 255) := hb0
  clear hb0
  go_enter Yba.func11, Yba.ntmps11
  go_wp2
  clear hmk
  go_loopw [11, 26] (fun cu x wr => ∃ (k : Nat) (kb : Nat → Nat), k ≤ l0 ∧ x = .int .i64 k ∧ cu = .int .i64 (cum z0 k) ∧ Recs wr w.heap.size l0 kb k ∧ (∀ j, j < k → BigIs wr (kb j) (cum z0 (j + 1))) ∧ Below w.heap.size w wr) (fun _ x _ => l0 - (intOf x).toNat)
  case atStart => exact ⟨0, fun _ => 0, Nat.zero_le _, rfl, rfl, zeroRecs_row _ _ _, fun j hj => by omega, (Below.refl _ _).alloc (Nat.le_refl _) _⟩
  case round =>
    obtain ⟨k, kb, hk, rfl, rfl, hR, hK, hB⟩ := hrel
    by_cases hlt : k < l0
    · obtain ⟨b0, o0, rfl, s0⟩ := (i0.kept hB).place hlt
      have x0 := s0 k hlt
      have hki : (k : Int) < (l0 : Int) := by omega
      have hz := HB.out k
      have hcb := cum_bounds HB.out k
      have HC : Hid (cum z0 (k + 1) = cum z0 k + (z0.getD k 0 + 1)) := rfl
      generalize z0.getD k 0 = v at x0 hz HC
      generalize cum z0 k = cu at hcb HC ⊢
      obtain ⟨hz0, hz1⟩ := hz
      obtain ⟨hc0, hc1⟩ := hcb
      clear s0
      go_wp2_with fail
      refine (newInt_any (cu + (v + 1)) _ (by omega) (by omega)).mono ?_
      rintro e w1 ⟨b, rfl, hb1, hBig, hB1⟩
      have hR1 := hR.keeps (Keeps.of_below (e := 0) hB1) (by decide)
      obtain ⟨f, hrow1, hf⟩ := id hR1
      have q0 := hrow1.cell (i := k * 5) (by omega)
      have q1 := hrow1.cell (i := k * 5 + 1) (by omega)
      have q2 := hrow1.cell (i := k * 5 + 2) (by omega)
      have q3 := hrow1.cell (i := k * 5 + 3) (by omega)
      have q4 := hrow1.cell (i := k * 5 + 4) (by omega)
      have f0 := hrow1.frozen (k * 5)
      have f1 := hrow1.frozen (k * 5 + 1)
      have f2 := hrow1.frozen (k * 5 + 2)
      have f3 := hrow1.frozen (k * 5 + 3)
      have f4 := hrow1.frozen (k * 5 + 4)
      obtain ⟨cc, hcc, _⟩ := hrow1
      have HCC : Hid (w1.heap[w.heap.size]? = some (.cells cc 48 (0, 0))) := hcc
      clear hcc hR
      go_wp2
      go_roundw
      case rel =>
        go_light
        have KP := Keeps.store (k := k) (v0 := .pointer (some ⟨b, 0, none⟩)) (v1 := .slice none 0 0) (v2 := .slice none 0 0) (v3 := .slice none 0 0) (v4 := .int .u64 k) HCC.out
        have BB := below_up' hB hB1
        refine ⟨k + 1, upd kb k b, by omega, by go_num, by rw [HC.out], hR1.store, fun j hj => ?_, ?_⟩
        · by_cases e : j = k
          · rw [e, upd_same, HC.out]
            exact hBig.keeps KP (by decide) (by decide)
          · rw [upd_lt kb (by omega)]
            exact ((hK j (by omega)).below hB1).keeps KP (by decide) (by decide)
        · exact ((((BB.setCell (p := ⟨w.heap.size, k * 5, none⟩) (Nat.le_refl _) _).setCell (p := ⟨w.heap.size, k * 5 + 1, none⟩) (Nat.le_refl _) _).setCell (p := ⟨w.heap.size, k * 5 + 2, none⟩) (Nat.le_refl _) _).setCell (p := ⟨w.heap.size, k * 5 + 3, none⟩) (Nat.le_refl _) _).setCell (p := ⟨w.heap.size, k * 5 + 4, none⟩) (Nat.le_refl _) _
      case measure => simp [intOf]; omega
    · obtain rfl : k = l0 := by omega
      have hH : Held wr w.heap.size k kb z0 := ⟨hR, hK⟩
      have BA := (Below.refl wr.heap.size wr).alloc (Nat.le_refl _) (.cells #[.slice (some ⟨w.heap.size, 0, none⟩) k k, .slice none 0 0] 54)
      have hH' := hH.keeps (Keeps.of_below (e := 0) BA) (by decide) (by decide) (by decide)
      have hB' := below_up' hB BA
      have HL : LeafAt (wr.alloc (.cells #[.slice (some ⟨w.heap.size, 0, none⟩) k k, .slice none 0 0] 54)) wr.heap.size w.heap.size 0 k k := by
        show _ = _; rw [blk_alloc_new]; simp
      clear hR hK hH BA HB
      rcases hfl with rfl | rfl
      · go_wp2
        go_ret3
        exact ⟨wr.heap.size, w.heap.size, kb, rfl, HL, hH', hB'⟩
      · cases fl
        · go_wp2
          go_ret3
          exact ⟨wr.heap.size, w.heap.size, kb, rfl, HL, hH', hB'⟩
        · go_wp2
          go_ret3
          exact ⟨wr.heap.size, w.heap.size, kb, rfl, HL, hH', hB'⟩
end Go.Proofs.Ybulkexa
