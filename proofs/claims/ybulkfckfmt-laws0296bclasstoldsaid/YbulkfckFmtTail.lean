/-
  DERIVED. '(*Tx).check' AT THE WORLD THAT 'LawS0296BClass' CALLS IT IN, AND THE COMPARISONS BEHIND IT. Made by an AI agent.
-/
import Derived.Test.YbulkfckFmtMade
import Derived.Test.YbulkfckFmtCheck
import Derived.Test.YbulkfckFmtIs
import Derived.WideLaws
namespace Go.Proofs.YbulkfckFmt
open Go.RowKit Go.Deep Go.Extern.Stop Go.Stop Go.Extern
set_option maxRecDepth 100000

theorem eql_same (a : Addr) (w : World) : (binOp .eql 50 (.iface 64 (.pointer (some a))) (.iface 64 (.pointer (some a)))).run Ybaf.prog w = .ok (.bool true) w := by
  obtain ⟨i, hi, hcmp⟩ := Option.map_eq_some_iff.1 Ybaf.isComp
  obtain ⟨j, hj, _⟩ := Option.map_eq_some_iff.1 Ybaf.isSize
  exact run_eql_iface_ptr_same (P := Ybaf.prog) w a Ybaf.underlying50 Ybaf.underlying64 hi hcmp hj
theorem neq_same (a : Addr) (w : World) : (binOp .neq 50 (.iface 64 (.pointer (some a))) (.iface 64 (.pointer (some a)))).run Ybaf.prog w = .ok (.bool false) w := by
  obtain ⟨i, hi, hcmp⟩ := Option.map_eq_some_iff.1 Ybaf.isComp
  obtain ⟨j, hj, _⟩ := Option.map_eq_some_iff.1 Ybaf.isSize
  simp only [binOp]
  simp [Op.equal, Op.maxDepth, run_equalIn_iface_ptr_same (P := Ybaf.prog) w 9998 a Ybaf.underlying50 Ybaf.underlying64 hi hcmp hj]

theorem cell_of {w : World} {b i : Nat} {cs : Array Value} {t : TypeId} {v : Value} (h : w.heap[b]? = some (.cells cs t (0, 0))) (hv : cs[i]? = some v) : w.cell? ⟨b, i, none⟩ = some v := by
  simp [World.cell?, h, hv]

/-- errors.New. -/
theorem new_any (s : ByteArray) (w : World) :
    Calls Ybaf.prog 8 #[.string s] w fun e w' => e = .returned (.iface 64 (.pointer (some ⟨w.heap.size, 0, none⟩))) ∧ w' = w.alloc (.cells #[.string s] 66) := by
  go_enter Ybaf.func8, Ybaf.ntmps8
  go_wp2
  go_ret
  exact ⟨rfl, rfl⟩

abbrev zz : ByteArray := { data := #[122, 122, 32, 99, 97, 117, 115, 101] }
abbrev causeV (C : Nat) : Value := .iface 64 (.pointer (some ⟨C, 0, none⟩))
/-- The world in which check is called. -/
def world3 (wr : World) (done : Bool) (E m : Value) : World :=
  (wr.alloc (.cells #[.string zz] 66)).alloc (.cells #[.pointer none, .int .u64 0, .int .u64 0, .bool done, E, m, .slice none 0 0, .map none, .map none] 57)

theorem world3_below (wr : World) (done : Bool) (E m : Value) : Below wr.heap.size wr (world3 wr done E m) := by
  have h := (Below.refl wr.heap.size wr).alloc (Nat.le_refl _) (.cells #[.string zz] 66)
  exact h.alloc h.size _
theorem world3_size (wr : World) (done : Bool) (E m : Value) : (world3 wr done E m).heap.size = wr.heap.size + 2 := by
  unfold world3
  rw [alloc_size, alloc_size]
theorem world3_cause (wr : World) (done : Bool) (E m : Value) : (world3 wr done E m).heap[wr.heap.size]? = some (.cells #[.string zz] 66 (0, 0)) := by
  unfold world3
  rw [blk_alloc_lt _ _ _ (by rw [alloc_size]; omega)]
  exact blk_alloc_new _ _
theorem world3_tx (wr : World) (done : Bool) (E m : Value) : (world3 wr done E m).heap[wr.heap.size + 1]? = some (.cells #[.pointer none, .int .u64 0, .int .u64 0, .bool done, E, m, .slice none 0 0, .map none, .map none] 57 (0, 0)) := by
  unfold world3
  have := blk_alloc_new (wr.alloc (.cells #[.string zz] 66)) (.cells #[.pointer none, .int .u64 0, .int .u64 0, .bool done, E, m, .slice none 0 0, .map none, .map none] 57)
  rw [alloc_size] at this
  exact this

/-- What stands behind check. -/
structure Post (w w4 : World) (C : Nat) (done : Bool) (E m : Value) (cnt : Nat) (a0 : Addr) (c0 : Array Value) (t0 : TypeId) : Prop where
  d : w4.cell? ⟨C + 1, 3, none⟩ = some (.bool done)
  e : w4.cell? ⟨C + 1, 4, none⟩ = some E
  s : w4.cell? ⟨C + 1, 5, none⟩ = some m
  len : ∀ ty, (Builtin.len_ #[48] ty #[m]).run Ybaf.prog w4 = .ok (.int .i64 cnt) w4
  g : w4.cell? ⟨0, 0, none⟩ = some (.iface 64 (.pointer (some a0)))
  hc : w4.heap[C]? = some (.cells #[.string zz] 66 (0, 0))
  ha : w4.heap[a0.block]? = some (.cells c0 t0 (0, 0))
  ne : a0.block ≠ C
  below : Below w.heap.size w w4

theorem Post.of {w wr w4 : World} {len cnt : Nat} {B : Nat → Bool} {m E : Value} {done : Bool} {a0 : Addr} {c0 : Array Value} {t0 : TypeId} (hR : Ready w wr len B m cnt)
    (hg : w.cell? ⟨0, 0, none⟩ = some (.iface 64 (.pointer (some a0)))) (hs : w.heap[a0.block]? = some (.cells c0 t0 (0, 0)))
    (hb : Below (world3 wr done E m).heap.size (world3 wr done E m) w4) : Post w w4 wr.heap.size done E m cnt a0 c0 t0 := by
  have htx : w4.heap[wr.heap.size + 1]? = _ := (hb.block _ (by rw [world3_size]; omega)).trans (world3_tx wr done E m)
  have hR4 := (hR.kept (world3_below wr done E m)).kept hb
  refine ⟨by simp [World.cell?, htx], by simp [World.cell?, htx], by simp [World.cell?, htx], fun ty => ?_, ?_, ?_, ?_, ?_, hR4.below⟩
  · rcases hR4.snap with ⟨rfl, _, rfl⟩ | ⟨M, es, clock, rfl, q2, rfl, _⟩
    · simp [Builtin.len_, run_underlying Ybaf.underlying48]
      rfl
    · exact run_len_map _ _ _ _ _ _ (by kernel_rfl) q2
  · exact (hR4.below.cell (World.block_lt_of_cell? _ _ hg)).trans hg
  · exact (hb.block _ (by rw [world3_size]; omega)).trans (world3_cause wr done E m)
  · exact (hR4.below.block _ (heap_lt hs)).trans hs
  · have h1 := heap_lt hs
    have h2 := hR.below.size
    omega

section
variable {w wr : World} {len cnt i : Nat} {B : Nat → Bool} {m : Value} {a0 : Addr} {c0 : Array Value} {t0 : TypeId}

theorem chk_done (hR : Ready w wr len B m cnt)
    (hg : w.cell? ⟨0, 0, none⟩ = some (.iface 64 (.pointer (some a0)))) (hs : w.heap[a0.block]? = some (.cells c0 t0 (0, 0))) (E : Value) (tv : Option Addr) :
    Calls Ybaf.prog 9 #[.pointer (some ⟨wr.heap.size + 1, 0, none⟩), .pointer tv] (world3 wr true E m) fun e w4 => e = .returned (.iface 64 (.pointer (some a0))) ∧ Post w w4 wr.heap.size true E m cnt a0 c0 t0 := by
  have P := Post.of (done := true) (E := E) hR hg hs (Below.refl _ _)
  exact (check_done _ tv a0 _ P.d P.g).mono fun e w' ⟨h1, h2⟩ => ⟨h1, h2 ▸ P⟩

theorem chk_failed (hR : Ready w wr len B m cnt)
    (hg : w.cell? ⟨0, 0, none⟩ = some (.iface 64 (.pointer (some a0)))) (hs : w.heap[a0.block]? = some (.cells c0 t0 (0, 0))) (F : Interp) (hF : F.answers w.tape) (tv : Option Addr) :
    Calls Ybaf.prog 9 #[.pointer (some ⟨wr.heap.size + 1, 0, none⟩), .pointer tv] (world3 wr false (causeV wr.heap.size) m) fun e w4 => ∃ pb, e = .returned (.iface 81 (.pointer (some ⟨pb, 0, none⟩))) ∧
      w4.cell? ⟨pb, 0 + 1, none⟩ = some (causeV wr.heap.size) ∧ Post w w4 wr.heap.size false (causeV wr.heap.size) m cnt a0 c0 t0 := by
  have P := Post.of (done := false) (E := causeV wr.heap.size) hR hg hs (Below.refl _ _)
  have hF3 : F.answers (world3 wr false (causeV wr.heap.size) m).tape := by rw [P.below.tape]; exact hF
  have hcz : (world3 wr false (causeV wr.heap.size) m).cell? ⟨wr.heap.size, 0, none⟩ = some (.string zz) := by simp [World.cell?, P.hc]
  refine (check_failed F _ tv ⟨wr.heap.size, 0, none⟩ zz _ hF3 P.d P.e ?_).mono fun e w' ⟨h1, t, h2⟩ => ⟨_, h1, ?_, ?_⟩
  · rw [World.cell?_alloc_past _ _ _ (by rw [world3_size]; show wr.heap.size < _; omega)]
    exact hcz
  · subst h2
    rw [World.cell?_drew]
    have := blk_alloc_new ((world3 wr false (causeV wr.heap.size) m).alloc (.cells #[causeV wr.heap.size] 20)) (.cells #[.string t, causeV wr.heap.size] 137)
    rw [alloc_size] at this
    exact cell_of this rfl
  · subst h2
    have b1 := (Below.refl (world3 wr false (causeV wr.heap.size) m).heap.size (world3 wr false (causeV wr.heap.size) m)).alloc (Nat.le_refl _) (.cells #[causeV wr.heap.size] 20)
    exact Post.of hR hg hs (b1.alloc b1.size _).drew

theorem chk_in (hR : Ready w wr len B m cnt)
    (hg : w.cell? ⟨0, 0, none⟩ = some (.iface 64 (.pointer (some a0)))) (hs : w.heap[a0.block]? = some (.cells c0 t0 (0, 0))) (hi : i < len) (hB : B i = true) :
    Calls Ybaf.prog 9 #[.pointer (some ⟨wr.heap.size + 1, 0, none⟩), .pointer (some ⟨w.heap.size + 1 + i, 0, none⟩)] (world3 wr false .nilIface m) fun e w4 => e = .returned .nilIface ∧ Post w w4 wr.heap.size false .nilIface m cnt a0 c0 t0 := by
  have P := Post.of (done := false) (E := .nilIface) hR hg hs (Below.refl _ _)
  obtain ⟨z, hz⟩ := (hR.kept (world3_below wr false .nilIface m)).inside hi hB
  exact (check_in _ _ m _ _ P.d P.e P.s hz).mono fun e w' ⟨h1, h2⟩ => ⟨h1, h2 ▸ P⟩

theorem chk_out (hR : Ready w wr len B m cnt)
    (hg : w.cell? ⟨0, 0, none⟩ = some (.iface 64 (.pointer (some a0)))) (hs : w.heap[a0.block]? = some (.cells c0 t0 (0, 0))) (F : Interp) (hF : F.answers w.tape) (hi : i < len + 1) (hB : ¬ (i < len ∧ B i = true)) :
    Calls Ybaf.prog 9 #[.pointer (some ⟨wr.heap.size + 1, 0, none⟩), .pointer (some ⟨w.heap.size + 1 + i, 0, none⟩)] (world3 wr false .nilIface m) fun e w4 => ∃ pb t, e = .returned (.iface 64 (.pointer (some ⟨pb, 0, none⟩))) ∧
      w4.heap[pb]? = some (.cells #[.string t] 66 (0, 0)) ∧ pb ≠ wr.heap.size ∧ pb ≠ a0.block ∧ Post w w4 wr.heap.size false .nilIface m cnt a0 c0 t0 := by
  have P := Post.of (done := false) (E := .nilIface) hR hg hs (Below.refl _ _)
  have hF3 : F.answers (world3 wr false .nilIface m).tape := by rw [P.below.tape]; exact hF
  have hR3 := hR.kept (world3_below wr false .nilIface m)
  have hz := hR3.outside hi hB
  have hn := (hR3.tab i hi).cell (i := 1) (by omega)
  have h3 := world3_size wr false .nilIface m
  have h4 := heap_lt hs
  have h5 := hR.below.size
  refine (check_out F _ _ m _ ⟨#[116]⟩ _ hF3 P.d P.e P.s hz hn).mono fun e w' ⟨h1, t, h2⟩ => ⟨_, t, h1, ?_, by omega, by omega, ?_⟩
  · subst h2
    have := blk_alloc_new ((world3 wr false .nilIface m).alloc (.cells #[.iface 9 (.string ⟨#[116]⟩)] 20)) (.cells #[.string t] 66)
    rw [alloc_size] at this
    exact this
  · subst h2
    have b1 := (Below.refl (world3 wr false .nilIface m).heap.size (world3 wr false .nilIface m)).alloc (Nat.le_refl _) (.cells #[.iface 9 (.string ⟨#[116]⟩)] 20)
    exact Post.of hR hg hs (b1.alloc b1.size _).drew
end

end Go.Proofs.YbulkfckFmt
