/- THE CONTRACT of 'node.zzs0286cbuild' where it lays a tree. -/
import Derived.Test.YbulkexaKids
import Derived.Deep.DeepCutAuto
import Derived.Deep.LoopGhost
namespace Go.Proofs.Ybulkexa
open Go.RowKit Go.Deep

theorem news_two (w : World) (o : Obj) (a b : Value) (t : TypeId) : ∀ (j : Nat) (u : Value), [a, b][j]? = some u → ((w.alloc o).alloc (.cells #[a, b] t)).drew.cell? ((⟨w.heap.size + 1, 0, none⟩ : Addr).add j) = some u := by
  intro j u hj
  have h := (two_at w o (.cells #[a, b] t)).2
  have e : ((w.alloc o).alloc (.cells #[a, b] t)).drew.cell? ⟨w.heap.size + 1, 0 + j, none⟩ = #[a, b][0 + j]? := cell_at (W := ((w.alloc o).alloc (.cells #[a, b] t)).drew) h (0 + j)
  rw [WideShapes.add_plain, e, Nat.zero_add]
  simpa using hj
theorem one_two {a b : Value} (ha : a.oneCell' = true) (hb : b.oneCell' = true) : ∀ u ∈ [a, b], u.oneCell' = true := by
  intro u hu
  simp at hu
  rcases hu with rfl | rfl
  · exact ha
  · exact hb
theorem Grows.kid' {w wr w1 : World} {n c p en : Nat} {kb nd P : Nat → Nat} {zs : List Int} {kv fv kv' : Value} (G : Grows w wr n kb nd P zs c c kv fv) (hp : p = P c) (h1 : p < en) (h2 : en ≤ n) {o' : Obj}
    (ho : w1.ownsRow w.heap.size 56 2 kv' (c + 1) (kidCells kb nd P c ++ [.pointer (some ⟨kb p, 0, none⟩), .pointer (some ⟨wr.heap.size, 0, none⟩)]))
    (hg : ((wr.alloc (.cells #[.slice (some ⟨w.heap.size, p * 5, none⟩) (en - p) (n - p), .slice none 0 0] 54)).alloc o').drew.grownBy w1 kv.ownBlock) :
    ∃ nd' P', Grows w w1 n kb nd' P' zs (c + 1) c kv' fv ∧ P' c = p ∧ P' (c + 1) = en := by
  subst hp
  refine ⟨upd nd c wr.heap.size, upd P (c + 1) en, G.kid ?_ ?_ h1 h2 ho hg, upd_ne P (by omega), upd_same P _ _⟩
  · exact (((Below.refl _ _).alloc (Nat.le_refl _) _).alloc (by simp) _).drew
  · exact (two_at wr _ o').1
/-- THE TREE, LAID: its root, its records, the keys of its leaves' first records. -/
structure Tree (w w' : World) (t rg kg kc fg m n : Nat) (kb nd P : Nat → Nat) (zs : List Int) : Prop where
  root : RootAt w' t kg m kc n rg kb nd P
  held : Held w' rg n kb zs
  fsts : ∀ j, j < m → w'.cell? ⟨fg, j, none⟩ = some (.pointer (some ⟨kb (P j), 0, none⟩))
  zero : P 0 = 0
  last : P m = n
  bel : Below w.heap.size w w'

theorem own_cell {w : World} {base size n g cap : Nat} {e : TypeId} {xs : List Value} (h : w.ownsRow base e size (.slice (some ⟨g, 0, none⟩) n cap) n xs) {i : Nat} {u : Value} (hi : xs[i]? = some u) : w.cell? ⟨g, i, none⟩ = some u := by
  obtain ⟨_, ⟨h, _⟩ | ⟨g', cap', cur, h, _, hg, _, _, _, ht⟩⟩ := h
  · cases h
  · cases h
    have e1 : w.cell? ⟨g, i, none⟩ = cur[i]? := by simp [World.cell?, hg]
    rw [e1]
    rw [← ht] at hi
    have hlt : i < (cur.toList.take (n * size)).length := (List.getElem?_eq_some_iff.1 hi).1
    rw [List.getElem?_take_of_lt (by simp at hlt; omega)] at hi
    simpa using hi

theorem Grows.done {w wr : World} {c k : Nat} {kb nd P : Nat → Nat} {zs : List Int} {kg kc fg fc : Nat} (G : Grows w wr k kb nd P zs c c (.slice (some ⟨kg, 0, none⟩) c kc) (.slice (some ⟨fg, 0, none⟩) c fc)) (hp : k = P c) (hc : 0 < c) (hk : k ≤ 1024) (hck : c ≤ k) :
    Tree w (wr.alloc (.cells #[.slice none 0 0, .slice (some ⟨kg, 0, none⟩) c kc] 54)) wr.heap.size w.heap.size kg kc fg c k kb nd P zs := by
  have BA : Below wr.heap.size wr (wr.alloc (.cells #[.slice none 0 0, .slice (some ⟨kg, 0, none⟩) c kc] 54)) := (Below.refl _ _).alloc (Nat.le_refl _) _
  have K0 : Keeps 0 wr (wr.alloc (.cells #[.slice none 0 0, .slice (some ⟨kg, 0, none⟩) c kc] 54)) := Keeps.of_below BA
  have hkids := ownsRow_keeps G.kids K0 (by decide)
  have hfsts := ownsRow_keeps G.fsts K0 (by decide)
  have hroom : c ≤ kc ∧ kc ≤ maxLen := by
    obtain ⟨_, ⟨h, _⟩ | ⟨g', cap', cur, h, _, hg, h1, h2, _⟩⟩ := G.kids
    · cases h
    · cases h; exact ⟨h1, h2⟩
  refine ⟨⟨blk_alloc_new _ _, hc, hroom.1, hroom.2, by omega, fun j hj => ?_, fun j hj => (G.leaf j hj).keeps K0 (by decide), G.lt, G.le, hk⟩, G.held.keeps K0 (by decide) (by decide) (by decide), fun j hj => own_cell hfsts (fstCells_at kb P hj), G.zero, hp.symm, below_up' G.bel BA⟩
  have h := kidCells_at kb nd P hj
  exact ⟨by rw [Nat.mul_comm]; exact own_cell hkids h.1, by rw [Nat.mul_comm j 2]; exact own_cell hkids h.2⟩

theorem below_one (w : World) (o : Obj) : Below w.heap.size w (w.alloc o) := (Below.refl _ _).alloc (Nat.le_refl _) _
theorem news_one (w : World) (a : Value) (t : TypeId) : ∀ (j : Nat) (u : Value), [a][j]? = some u → (w.alloc (.cells #[a] t)).cell? ((⟨w.heap.size, 0, none⟩ : Addr).add j) = some u := by
  intro j u hj
  have e := cell_at (blk_alloc_new w (.cells #[a] t)) (0 + j)
  rw [WideShapes.add_plain, e, Nat.zero_add]
  simpa using hj
theorem below_two (w : World) (o o' : Obj) : Below w.heap.size w ((w.alloc o).alloc o').drew := (((Below.refl _ _).alloc (Nat.le_refl _) _).alloc (by simp) _).drew

set_option maxRecDepth 100000 in
set_option maxHeartbeats 1000000 in
theorem build_tree (a0 a1 : Option Addr) (l0 c0 l1 c1 : Nat) (z0 z1 : List Int) (w : World) (hn : l0 ≤ 1024) (hpos : 0 < l0)
    (i0 : IsRow .u8 w a0 l0 c0 z0) (i1 : IsRow .u8 w a1 l1 c1 z1) :
    Calls Yba.prog 11 #[.slice a0 l0 c0, .slice a1 l1 c1, .bool false] w fun e w' => ∃ t kg kc fg fc m kb nd P, e = .returned (.tuple #[.pointer (some ⟨t, 0, none⟩), .slice (some ⟨w.heap.size, 0, none⟩) l0 l0, .slice (some ⟨fg, 0, none⟩) m fc]) ∧ Tree w w' t w.heap.size kg kc fg m l0 kb nd P z0 := by
  have hmk := make_recs l0 hn
  have hb0 := i0.bytes
  have HB : Hid (∀ j, 0 ≤ z0.getD j 0 ∧ z0.getD j 0 ≤ 255) := hb0
  clear hb0
  go_enter Yba.func11, Yba.ntmps11
  go_wp2
  clear hmk
  go_loopw [11, 26] (fun cu x wr => ∃ (k : Nat) (kb : Nat → Nat), k ≤ l0 ∧ x = .int .i64 k ∧ cu = .int .i64 (cum z0 k) ∧ Recs wr w.heap.size l0 kb k ∧ (∀ j, j < k → BigIs wr (kb j) (cum z0 (j + 1))) ∧ Below w.heap.size w wr) (fun _ x _ => l0 - (intOf x).toNat)
  case atStart => exact ⟨0, fun _ => 0, Nat.zero_le _, rfl, rfl, zeroRecs_row _ _ _, fun j hj => by omega, (Below.refl _ _).alloc (Nat.le_refl _) _⟩
  case round =>
    obtain ⟨k, kb, hk, rfl, rfl, hR, hK, hB⟩ := hrel
    by_cases hlt : k < l0
    · obtain ⟨b0, o0, rfl, s0⟩ := (i0.kept hB).place hlt
      have x0 := s0 k hlt
      have hki : (k : Int) < (l0 : Int) := by omega
      have hz := HB.out k
      have hcb := cum_bounds HB.out k
      have HC : Hid (cum z0 (k + 1) = cum z0 k + (z0.getD k 0 + 1)) := rfl
      generalize z0.getD k 0 = v at x0 hz HC
      generalize cum z0 k = cu at hcb HC ⊢
      obtain ⟨hz0, hz1⟩ := hz
      obtain ⟨hc0, hc1⟩ := hcb
      clear s0
      go_wp2_with fail
      refine (newInt_any (cu + (v + 1)) _ (by omega) (by omega)).mono ?_
      rintro e w1 ⟨b, rfl, hb1, hBig, hB1⟩
      have hR1 := hR.keeps (Keeps.of_below (e := 0) hB1) (by decide)
      obtain ⟨f, hrow1, hf⟩ := id hR1
      have q0 := hrow1.cell (i := k * 5) (by omega)
      have q1 := hrow1.cell (i := k * 5 + 1) (by omega)
      have q2 := hrow1.cell (i := k * 5 + 2) (by omega)
      have q3 := hrow1.cell (i := k * 5 + 3) (by omega)
      have q4 := hrow1.cell (i := k * 5 + 4) (by omega)
      have f0 := hrow1.frozen (k * 5)
      have f1 := hrow1.frozen (k * 5 + 1)
      have f2 := hrow1.frozen (k * 5 + 2)
      have f3 := hrow1.frozen (k * 5 + 3)
      have f4 := hrow1.frozen (k * 5 + 4)
      obtain ⟨cc, hcc, _⟩ := hrow1
      have HCC : Hid (w1.heap[w.heap.size]? = some (.cells cc 48 (0, 0))) := hcc
      clear hcc hR
      go_wp2
      go_roundw
      case rel =>
        go_light
        have KP := Keeps.store (k := k) (v0 := .pointer (some ⟨b, 0, none⟩)) (v1 := .slice none 0 0) (v2 := .slice none 0 0) (v3 := .slice none 0 0) (v4 := .int .u64 k) HCC.out
        have BB := below_up' hB hB1
        refine ⟨k + 1, upd kb k b, by omega, by go_num, by rw [HC.out], hR1.store, fun j hj => ?_, ?_⟩
        · by_cases e : j = k
          · rw [e, upd_same, HC.out]
            exact hBig.keeps KP (by decide) (by decide)
          · rw [upd_lt kb (by omega)]
            exact ((hK j (by omega)).below hB1).keeps KP (by decide) (by decide)
        · exact ((((BB.setCell (p := ⟨w.heap.size, k * 5, none⟩) (Nat.le_refl _) _).setCell (p := ⟨w.heap.size, k * 5 + 1, none⟩) (Nat.le_refl _) _).setCell (p := ⟨w.heap.size, k * 5 + 2, none⟩) (Nat.le_refl _) _).setCell (p := ⟨w.heap.size, k * 5 + 3, none⟩) (Nat.le_refl _) _).setCell (p := ⟨w.heap.size, k * 5 + 4, none⟩) (Nat.le_refl _) _
      case measure => simp [intOf]; omega
    · obtain rfl : k = l0 := by omega
      have hH : Held wr w.heap.size k kb z0 := ⟨hR, hK⟩
      have hbz := i1.bytes
      have HZ : Hid (∀ j, 0 ≤ z1.getD j 0 ∧ z1.getD j 0 ≤ 255) := hbz
      have hG : Grows w wr k kb (fun _ => 0) (fun _ => 0) z0 0 0 (.slice none 0 0) (.slice none 0 0) := ⟨hB, hH, ⟨rfl, .inl ⟨rfl, rfl⟩⟩, ⟨rfl, .inl ⟨rfl, rfl⟩⟩, fun j hj => by omega, fun j hj => by omega, fun j hj => by omega, rfl⟩
      clear hR hK HB hH hbz hB
      obtain ⟨l1b1, l1b2, _⟩ := i1.bounds
      unfold maxLen at l1b2
      go_wp2
      go_loopg [14, 15, 16, 17] k (fun g kv fv j x wr => ∃ (c p : Nat) (nd P : Nat → Nat), Hid (p = P c) ∧ g = k - p ∧ Grows w wr k kb nd P z0 c c kv fv ∧ j = .int .i64 c ∧ x = .int .i64 p ∧ p ≤ k ∧ c ≤ p)
      case atStart => exact ⟨0, 0, fun _ => 0, fun _ => 0, rfl, by omega, hG, rfl, rfl, Nat.zero_le _, Nat.le_refl _⟩
      case round =>
        obtain ⟨c, p, nd, P, HP, hgk, G, rfl, rfl, hpk, hcp⟩ := hrel
        have HGK : Hid (gk = k - p) := hgk
        clear hgk
        by_cases hlp : p < k
        · go_upto_if 59 with fail
          go_cut [18] (fun s18 wx => ∃ s : Nat, 1 ≤ s ∧ s ≤ 4 ∧ s18 = .int .i64 s ∧ wr = wx)
          case first =>
            by_cases h0 : l1 = 0
            · subst h0
              go_wp2
              go_meet
              exact ⟨3, by omega, by omega, rfl, rfl⟩
            · obtain ⟨b1, o1, rfl, s1⟩ := (i1.kept G.bel).place (j := 0) (by omega)
              have hmod : c % l1 < l1 := Nat.mod_lt _ (by omega)
              have x1 := s1 (c % l1) hmod
              have hz := HZ.out (c % l1)
              generalize z1.getD (c % l1) 0 = v at x1 hz
              obtain ⟨hz0, hz1⟩ := hz
              clear s1
              have hl1 : (0 : Int) < (l1 : Int) := by omega
              go_wp2
              go_meet
              exact ⟨(v % 4 + 1).toNat, by omega, by omega, by rw [Int.toNat_of_nonneg (by omega)], rfl⟩
          case rest =>
            obtain ⟨s, hs1, hs2, rfl, hw⟩ := hcut
            subst hw
            clear HZ i1 l1b1 l1b2
            go_upto_region 20 with fail
            go_cut [19] (fun s19 wx => ∃ en : Nat, p < en ∧ en ≤ k ∧ s19 = .int .i64 en ∧ wr = wx)
            case first =>
              by_cases hmin : k < p + s
              · have hmi : (k : Int) < (p : Int) + (s : Int) := by omega
                go_wp2
                go_meet
                exact ⟨k, hlp, Nat.le_refl _, rfl, rfl⟩
              · have hmi : ¬ (k : Int) < (p : Int) + (s : Int) := by omega
                go_wp2
                go_meet
                exact ⟨p + s, by omega, by omega, by go_num, rfl⟩
            case rest =>
              obtain ⟨en, he1, he2, rfl, hw⟩ := hcut
              subst hw
              have rp := (G.held.recs.at (Nat.le_refl _) hlp).c0
              have hpk' : (p : Int) < (k : Int) := by omega
              have hek : (en : Int) ≤ (k : Int) := by omega
              have hpe : (p : Int) ≤ (en : Int) := by omega
              have hnpk : ¬ (k = p) := by omega
              go_upto_region 21 with fail
              obtain ⟨i56, hi56, hz56, hs56, hb56⟩ := info_parts info56
              have hsz := G.bel.size
              have hrg : w.heap.size < wr.heap.size := World.block_lt_of_cell? _ _ rp
              go_cut [14] (fun s14 wx => ∃ nd' P', Grows w wx k kb nd' P' z0 (c + 1) c s14 u15 ∧ P' c = p ∧ P' (c + 1) = en)
              case first =>
                go_region_law (refine step_append_own rfl (.tmp 75) (.tmp 88) 52 rfl w.heap.size 56 i56 _ 2 16 Yba.underlying52 hi56 hz56 hs56 hb56 rfl (by decide) u14 c (kidCells kb nd P c) rfl ?_ ⟨wr.heap.size + 1, 0, none⟩ 1 1 [.pointer (some ⟨kb p, 0, none⟩), .pointer (some ⟨wr.heap.size, 0, none⟩)] rfl rfl ?_ ?_ ?_ ?_ ?_ ?_; exact ownsRow_keeps G.kids (Keeps.of_below (e := 0) (below_two _ _ _)) (by decide); exact news_two _ _ _ _ _; exact one_two rfl rfl; (unfold maxLen; omega); omega; (simp; omega); intro v' w1 ho hg _)
                all_goals
                  go_wp2_with fail
                  go_meet
                  have ho := (by assumption : World.ownsRow _ w.heap.size 56 2 _ (c + 1) _)
                  have hg := (by assumption : World.grownBy _ _ (Value.ownBlock u14))
                  exact G.kid' HP.out he1 he2 ho hg
              case rest =>
                obtain ⟨nd', P', G', hP1, hP2⟩ := hcut
                have HP1 : Hid (P' c = p) := hP1
                have HP2 : Hid (P' (c + 1) = en) := hP2
                have rp := (G'.held.recs.at (Nat.le_refl _) hlp).c0
                obtain ⟨i38, hi38, hz38, hs38, hb38⟩ := info_parts info38
                have hsz := G'.bel.size
                clear hP1 hP2 G hi56 hz56 hs56 hb56
                go_wp2_with (at_builtin; refine wpList_append_own _ rfl (.tmp 90) (.tmp 96) 35 rfl w.heap.size 38 i38 _ 1 8 Yba.underlying35 hi38 hz38 hs38 hb38 rfl (by decide) u15 c (fstCells kb P' c) rfl ?_ ⟨wc.heap.size, 0, none⟩ 1 1 [.pointer (some ⟨kb p, 0, none⟩)] rfl rfl ?_ ?_ ?_ ?_ ?_ ?_; exact ownsRow_keeps G'.fsts (Keeps.of_below (e := 0) (below_one _ _)) (by decide); exact news_one _ _ _; (intro u hu; simp at hu; subst hu; rfl); (unfold maxLen; omega); omega; (simp; omega); intro v' w1 ho hg _)
                go_roundg (k - en)
                case measure => have := HGK.out; omega
                case rel =>
                  refine ⟨c + 1, en, nd', P', HP2.out.symm, rfl, G'.fst (below_one _ _) ?_ (by assumption), by go_num, rfl, he2, by omega⟩
                  rw [HP1.out]; assumption
        · obtain rfl : p = k := by omega
          have hc0 : 0 < c := by
            rcases Nat.eq_zero_or_pos c with h0 | h0
            · have h1 := HP.out; rw [h0, G.zero] at h1; omega
            · exact h0
          obtain ⟨hkl, ⟨_, h0⟩ | ⟨kg, kc, kcur, rfl, hkb, hkg, hkn, hkm, hks, hkt⟩⟩ := id G.kids
          · omega
          obtain ⟨hfl, ⟨_, h0⟩ | ⟨fg, fc, fcur, rfl, hfb, hfg, hfn, hfm, hfs, hft⟩⟩ := id G.fsts
          · omega
          have DN := G.done HP.out hc0 hn hcp
          clear hkl hfl hkb hkg hkn hkm hks hkt hfb hfg hfn hfm hfs hft G
          go_wp2
          go_ret3
          exact ⟨wr.heap.size, kg, kc, fg, fc, c, kb, nd, P, rfl, DN⟩
end Go.Proofs.Ybulkexa
