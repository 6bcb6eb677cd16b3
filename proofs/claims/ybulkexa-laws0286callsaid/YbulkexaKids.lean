/- PLAIN FACTS for the second loop of 'node.zzs0286cbuild': the rows of children and of first keys, as they grow. -/
import Derived.Test.YbulkexaBuild
import Derived.Deep.RegionLaw
namespace Go.Proofs.Ybulkexa
open Go.RowKit Go.Deep

/-- append to a row of the call's own, as one step of a region that draws its order. -/
theorem step_append_own {P : Program} {ops : Array Oper} {o : Oper} {a : Act} {w : World} {K : Act → World → Prop} {Q : Exit → Act → World → Prop} {E : Prop}
    (hgd : o.guard = none) (s x : Operand) (t : TypeId) (ho : o.op = .call { callee := .builtin .append, args := #[s, x], argTypes := #[t, t] })
    (base : Nat) (e : TypeId) (i : TypeInfo) (z : Value) (size bytes : Nat) (ht : P.underlying t = some (.slice e)) (hi : P.info? e = some i) (hz : i.zero = some z)
    (hsize : i.size = size) (hby : i.bytes = bytes) (hzs : z.cells.size = size) (hsz : 0 < size)
    (v : Value) (n : Nat) (xs : List Value) (hs : a.eval s = v) (hown : w.ownsRow base e size v n xs)
    (ad : Addr) (m c : Nat) (news : List Value) (hx : a.eval x = .slice (some ad) m c) (hl : news.length = m * size) (hnews : ∀ j u, news[j]? = some u → w.cell? (ad.add j) = some u) (h1 : ∀ u ∈ news, u.oneCell' = true)
    (h63 : n + m ≤ maxLen) (hbytes : (n + m) * bytes ≤ 140737488355328) (hbase : base ≤ w.heap.size)
    (h : ∀ v' w', w'.ownsRow base e size v' (n + m) (xs ++ news) → w.grownBy w' v.ownBlock → (v' = .slice none 0 0 ↔ v = .slice none 0 0 ∧ m = 0) → K (a.put o.dst v') w') :
    if Region.wanted o (yielded ops a.tmps) = true then Oper.wp P o a w K Q else E := by
  have hw : Region.wanted o (yielded ops a.tmps) = true := by simp [Region.wanted, hgd]
  rw [if_pos hw]
  exact wp_append_own w s x t ho base e i z size bytes ht hi hz hsize hby hzs hsz v n xs hs hown ad m c news hx hl hnews h1 h63 hbytes hbase h

def kidCells (kb nd P : Nat → Nat) : Nat → List Value
  | 0 => []
  | k + 1 => kidCells kb nd P k ++ [.pointer (some ⟨kb (P k), 0, none⟩), .pointer (some ⟨nd k, 0, none⟩)]
def fstCells (kb P : Nat → Nat) : Nat → List Value
  | 0 => []
  | k + 1 => fstCells kb P k ++ [.pointer (some ⟨kb (P k), 0, none⟩)]
theorem kidCells_length (kb nd P : Nat → Nat) : ∀ k, (kidCells kb nd P k).length = 2 * k
  | 0 => rfl
  | k + 1 => by simp [kidCells, kidCells_length kb nd P k]; omega
theorem fstCells_length (kb P : Nat → Nat) : ∀ k, (fstCells kb P k).length = k
  | 0 => rfl
  | k + 1 => by simp [fstCells, fstCells_length kb P k]
theorem kidCells_congr {kb nd P nd' P' : Nat → Nat} : ∀ {k : Nat}, (∀ j, j < k → P j = P' j ∧ nd j = nd' j) → kidCells kb nd P k = kidCells kb nd' P' k
  | 0, _ => rfl
  | k + 1, h => by rw [kidCells, kidCells, kidCells_congr fun j hj => h j (by omega), (h k (by omega)).1, (h k (by omega)).2]
theorem fstCells_congr {kb P P' : Nat → Nat} : ∀ {k : Nat}, (∀ j, j < k → P j = P' j) → fstCells kb P k = fstCells kb P' k
  | 0, _ => rfl
  | k + 1, h => by rw [fstCells, fstCells, fstCells_congr fun j hj => h j (by omega), h k (by omega)]
theorem kidCells_at (kb nd P : Nat → Nat) {j : Nat} : ∀ {k : Nat}, j < k → (kidCells kb nd P k)[2 * j]? = some (.pointer (some ⟨kb (P j), 0, none⟩)) ∧ (kidCells kb nd P k)[2 * j + 1]? = some (.pointer (some ⟨nd j, 0, none⟩))
  | 0, h => by omega
  | k + 1, h => by
    have hl := kidCells_length kb nd P k
    simp only [kidCells]
    by_cases e : j = k
    · subst e
      constructor
      · rw [List.getElem?_append_right (by omega), hl]; simp
      · rw [List.getElem?_append_right (by omega), hl, show 2 * j + 1 - 2 * j = 1 from by omega]; simp
    · have hj : j < k := by omega
      constructor
      · rw [List.getElem?_append_left (by omega)]; exact (kidCells_at kb nd P hj).1
      · rw [List.getElem?_append_left (by omega)]; exact (kidCells_at kb nd P hj).2
theorem fstCells_at (kb P : Nat → Nat) {j : Nat} : ∀ {k : Nat}, j < k → (fstCells kb P k)[j]? = some (.pointer (some ⟨kb (P j), 0, none⟩))
  | 0, h => by omega
  | k + 1, h => by
    have hl := fstCells_length kb P k
    simp only [fstCells]
    by_cases e : j = k
    · subst e
      rw [List.getElem?_append_right (by omega), hl]; simp
    · rw [List.getElem?_append_left (by omega)]; exact fstCells_at kb P (by omega)

/-- The tree as it grows: ck children and cf first keys are laid. -/
structure Grows (w wr : World) (n : Nat) (kb nd P : Nat → Nat) (zs : List Int) (ck cf : Nat) (kv fv : Value) : Prop where
  bel : Below w.heap.size w wr
  held : Held wr w.heap.size n kb zs
  kids : wr.ownsRow w.heap.size 56 2 kv ck (kidCells kb nd P ck)
  fsts : wr.ownsRow w.heap.size 38 1 fv cf (fstCells kb P cf)
  leaf : ∀ j, j < ck → LeafAt wr (nd j) w.heap.size (P j) (P (j + 1)) (n - P j)
  lt : ∀ j, j < ck → P j < P (j + 1)
  le : ∀ j, j < ck → P (j + 1) ≤ n
  zero : P 0 = 0

/-- The leaf that is laid; the array of one child that append is handed. -/
def leafObj (rg p e n : Nat) : Obj := .cells #[.slice (some ⟨rg, p * 5, none⟩) (e - p) (n - p), .slice none 0 0] 54

theorem upd_ne (f : Nat → Nat) {k b j : Nat} (h : j ≠ k) : upd f k b j = f j := by simp [upd, h]

/-- A child more. W: the world in which append is carried out. -/
theorem Grows.kid {w wr W w1 : World} {n c en dn : Nat} {kb nd P : Nat → Nat} {zs : List Int} {kv fv kv' : Value} (G : Grows w wr n kb nd P zs c c kv fv)
    (hB : Below wr.heap.size wr W) (hl : LeafAt W dn w.heap.size (P c) en (n - P c)) (h1 : P c < en) (h2 : en ≤ n)
    (ho : w1.ownsRow w.heap.size 56 2 kv' (c + 1) (kidCells kb nd P c ++ [.pointer (some ⟨kb (P c), 0, none⟩), .pointer (some ⟨dn, 0, none⟩)])) (hg : W.grownBy w1 kv.ownBlock) :
    Grows w w1 n kb (upd nd c dn) (upd P (c + 1) en) zs (c + 1) c kv' fv := by
  have K0 : Keeps 0 wr W := Keeps.of_below hB
  have hk := ownsRow_keeps G.kids K0 (by decide)
  have K1 : Keeps 56 W w1 := Keeps.grown hk hg
  have e1 : kidCells kb (upd nd c dn) (upd P (c + 1) en) (c + 1) = kidCells kb nd P c ++ [.pointer (some ⟨kb (P c), 0, none⟩), .pointer (some ⟨dn, 0, none⟩)] := by
    rw [kidCells, upd_same, upd_ne P (by omega)]
    rw [kidCells_congr (kb := kb) (nd := upd nd c dn) (P := upd P (c + 1) en) (nd' := nd) (P' := P) fun j hj => ⟨upd_ne P (by omega), upd_ne nd (by omega)⟩]
  have e2 : fstCells kb (upd P (c + 1) en) c = fstCells kb P c := fstCells_congr fun j hj => upd_ne P (by omega)
  refine ⟨?_, (G.held.keeps K0 (by decide) (by decide) (by decide)).keeps K1 (by decide) (by decide) (by decide), by rw [e1]; exact ho, by rw [e2]; exact ownsRow_keeps (ownsRow_keeps G.fsts K0 (by decide)) K1 (by decide), fun j hj => ?_, fun j hj => ?_, fun j hj => ?_, by rw [upd_ne P (by omega)]; exact G.zero⟩
  · refine (below_up' G.bel hB).grown hg (Nat.le_trans G.bel.size hB.size) fun k hk' => ?_
    obtain ⟨_, ⟨rfl, _⟩ | ⟨g, cap, cur, rfl, hg', _⟩⟩ := G.kids
    · simp [Value.ownBlock] at hk'
    · simp [Value.ownBlock] at hk'; omega
  · by_cases e : j = c
    · subst e
      rw [upd_same, upd_ne P (by omega), upd_same]
      exact hl.keeps K1 (by decide)
    · rw [upd_ne nd e, upd_ne P (by omega), upd_ne P (by omega)]
      exact ((G.leaf j (by omega)).keeps K0 (by decide)).keeps K1 (by decide)
  · by_cases e : j = c
    · subst e; rw [upd_ne P (by omega), upd_same]; exact h1
    · rw [upd_ne P (by omega), upd_ne P (by omega)]; exact G.lt j (by omega)
  · by_cases e : j = c
    · subst e; rw [upd_same]; exact h2
    · rw [upd_ne P (by omega)]; exact G.le j (by omega)

/-- A first key more. -/
theorem Grows.fst {w wr W w1 : World} {n c : Nat} {kb nd P : Nat → Nat} {zs : List Int} {kv fv fv' : Value} (G : Grows w wr n kb nd P zs (c + 1) c kv fv)
    (hB : Below wr.heap.size wr W) (ho : w1.ownsRow w.heap.size 38 1 fv' (c + 1) (fstCells kb P c ++ [.pointer (some ⟨kb (P c), 0, none⟩)])) (hg : W.grownBy w1 fv.ownBlock) :
    Grows w w1 n kb nd P zs (c + 1) (c + 1) kv fv' := by
  have K0 : Keeps 0 wr W := Keeps.of_below hB
  have hk := ownsRow_keeps G.fsts K0 (by decide)
  have K1 : Keeps 38 W w1 := Keeps.grown hk hg
  refine ⟨?_, (G.held.keeps K0 (by decide) (by decide) (by decide)).keeps K1 (by decide) (by decide) (by decide), ownsRow_keeps (ownsRow_keeps G.kids K0 (by decide)) K1 (by decide), ho, fun j hj => ((G.leaf j hj).keeps K0 (by decide)).keeps K1 (by decide), G.lt, G.le, G.zero⟩
  refine (below_up' G.bel hB).grown hg (Nat.le_trans G.bel.size hB.size) fun k hk' => ?_
  obtain ⟨_, ⟨rfl, _⟩ | ⟨g, cap, cur, rfl, hg', _⟩⟩ := G.fsts
  · simp [Value.ownBlock] at hk'
  · simp [Value.ownBlock] at hk'; omega
end Go.Proofs.Ybulkexa
