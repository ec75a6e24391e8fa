import Derived.Test.Qxb6630841aW3
import Derived.Laws.Rows
namespace Go.Proofs.Qxb6630841a
open Go.RowKit

def putAll : Array Value → Nat → List Value → Array Value
  | cur, _, [] => cur
  | cur, o, v :: r => putAll (cur.setIfInBounds o v) (o + 1) r

theorem size_putAll : ∀ (vs : List Value) (cur : Array Value) (o : Nat), (putAll cur o vs).size = cur.size
  | [], _, _ => rfl
  | v :: r, cur, o => by rw [putAll, size_putAll r]; simp

theorem putAll_out : ∀ (vs : List Value) (cur : Array Value) (o k : Nat), (k < o ∨ o + vs.length ≤ k) → (putAll cur o vs)[k]? = cur[k]?
  | [], _, _, _, _ => rfl
  | v :: r, cur, o, k, h => by
    rw [putAll, putAll_out r _ _ _ (by simp at h; omega)]
    rw [Array.getElem?_setIfInBounds_ne (by simp at h; omega)]

theorem putAll_in : ∀ (vs : List Value) (cur : Array Value) (o k : Nat), o ≤ k → k < o + vs.length → o + vs.length ≤ cur.size → (putAll cur o vs)[k]? = vs[k - o]?
  | [], _, _, _, h, h', _ => by simp at h'; omega
  | v :: r, cur, o, k, h, h', h'' => by
    rw [putAll]
    by_cases e : k = o
    · subst e
      rw [putAll_out r _ _ _ (by omega)]
      simp at h''
      simp only [Nat.sub_self, List.getElem?_cons_zero]
      rw [Array.getElem?_setIfInBounds_self_of_lt (by omega)]
    · rw [putAll_in r _ _ _ (by omega) (by simp at h'; omega) (by simp at h'' ⊢; omega)]
      rw [show k - o = (k - (o + 1)) + 1 by omega, List.getElem?_cons_succ]

theorem heap_setCells_same (g t : Nat) : ∀ (vs : List Value) (o : Nat) (w : World) (cur : Array Value), w.heap[g]? = some (.cells cur t (0, 0)) → (w.setCells g o vs).heap[g]? = some (.cells (putAll cur o vs) t (0, 0))
  | [], _, _, _, h => h
  | v :: r, o, w, cur, h => by
    rw [World.setCells, putAll]
    exact heap_setCells_same g t r (o + 1) _ _ (heap_setCell_same w g o cur t v h)

theorem heap_setCells_ne (g k : Nat) (hk : k ≠ g) : ∀ (vs : List Value) (o : Nat) (w : World), (w.setCells g o vs).heap[k]? = w.heap[k]?
  | [], _, _ => rfl
  | v :: r, o, w => by
    rw [World.setCells, heap_setCells_ne g k hk r]
    exact heap_setCell_other w ⟨g, o, none⟩ k v hk

theorem there_row {w : World} {b t : Nat} {cur : Array Value} (h : w.heap[b]? = some (.cells cur t (0, 0))) (o n : Nat) (hn : o + n ≤ cur.size) : w.there b o n := by
  intro j hj
  rw [cell_row h, frozen_row h, Array.getElem?_eq_getElem (by omega)]
  exact ⟨rfl, rfl⟩

/-- The five cells of a row that came in. -/
def InCells (w : World) (b off : Nat) (L : List Rw) : Prop :=
  ∀ (j : Nat) (x : Rw), L[j]? = some x → w.cell? ⟨b, off + j * 5, none⟩ = some (.int .i64 x.1) ∧ w.cell? ⟨b, off + j * 5 + 1, none⟩ = some (.int .i64 x.2.1) ∧ w.cell? ⟨b, off + j * 5 + 2, none⟩ = some (.int .i64 x.2.2.1) ∧
    w.cell? ⟨b, off + j * 5 + 3, none⟩ = some (.bool x.2.2.2.1) ∧ w.cell? ⟨b, off + j * 5 + 4, none⟩ = some (.int .u8 (x.2.2.2.2 : Int))
def InFits (L : List Rw) : Prop := ∀ x ∈ L, (-9223372036854775808 ≤ x.1 ∧ x.1 ≤ 9223372036854775807) ∧ (-9223372036854775808 ≤ x.2.1 ∧ x.2.1 ≤ 9223372036854775807) ∧ (-9223372036854775808 ≤ x.2.2.1 ∧ x.2.2.1 ≤ 9223372036854775807) ∧ x.2.2.2.2 ≤ 255

theorem InCells.below {w w' : World} {b off : Nat} {L : List Rw} (h : InCells w b off L) (hb : b < w.heap.size) (hB : Below w.heap.size w w') : InCells w' b off L := by
  intro j x hj
  obtain ⟨c0, c1, c2, c3, c4⟩ := h j x hj
  exact ⟨(hB.cell (p := ⟨b, _, none⟩) hb).trans c0, (hB.cell (p := ⟨b, _, none⟩) hb).trans c1, (hB.cell (p := ⟨b, _, none⟩) hb).trans c2, (hB.cell (p := ⟨b, _, none⟩) hb).trans c3, (hB.cell (p := ⟨b, _, none⟩) hb).trans c4⟩

/-- Block ob is a table of n rows of the call's own; its first k are L's. -/
def PartT (w : World) (ob n k : Nat) (pa : Option Addr) (L : List Rw) : Prop :=
  ∃ cur : Array Value, w.heap[ob]? = some (.cells cur 44 (0, 0)) ∧ cur.size = n * 18 ∧ ∀ (j : Nat) (x : Rw), j < k → L[j]? = some x → ∀ q v, (rL pa x)[q]? = some v → cur[j * 18 + q]? = some v

theorem PartT.step {w : World} {ob n k : Nat} {pa : Option Addr} {L : List Rw} {x : Rw} (h : PartT w ob n k pa L) (hk : k < n) (hx : L[k]? = some x) : PartT (w.setCells ob (k * 18) (rL pa x)) ob n (k + 1) pa L := by
  obtain ⟨cur, h1, h2, h3⟩ := h
  have hl : (rL pa x).length = 18 := rfl
  refine ⟨_, heap_setCells_same ob 44 _ _ _ _ h1, by rw [size_putAll, h2], fun j y hj hy q v hv => ?_⟩
  have hq : q < 18 := by have := (List.getElem?_eq_some_iff.1 hv).1; rw [show (rL pa y).length = 18 from rfl] at this; exact this
  by_cases e : j = k
  · subst e
    rw [hx] at hy; cases hy
    rw [putAll_in _ _ _ _ (by omega) (by omega) (by omega), show j * 18 + q - j * 18 = q by omega]
    exact hv
  · rw [putAll_out _ _ _ _ (by omega)]
    exact h3 j y (by omega) hy q v hv

theorem PartT.of_block {w w' : World} {ob n k : Nat} {pa : Option Addr} {L : List Rw} (h : PartT w ob n k pa L) (hb : w'.heap[ob]? = w.heap[ob]?) : PartT w' ob n k pa L := by
  obtain ⟨cur, h1, h2⟩ := h
  exact ⟨cur, hb.trans h1, h2⟩
theorem PartT.lt {w : World} {ob n k : Nat} {pa : Option Addr} {L : List Rw} (h : PartT w ob n k pa L) : ob < w.heap.size := by
  obtain ⟨cur, h1, h2⟩ := h
  exact (Array.getElem?_eq_some_iff.1 h1).1
theorem PartT.there {w : World} {ob n k : Nat} {pa : Option Addr} {L : List Rw} (h : PartT w ob n k pa L) (hk : k < n) : w.there ob (k * 18) 18 := by
  obtain ⟨cur, h1, h2, _⟩ := h
  exact there_row h1 _ _ (by omega)
theorem PartT.cells {w : World} {ob n : Nat} {pa : Option Addr} {L : List Rw} (h : PartT w ob n n pa L) (hn : n = L.length) : TCells w ob 0 pa L := by
  obtain ⟨cur, h1, h2, h3⟩ := h
  intro j x hj q v hv
  rw [Nat.zero_add, cell_row h1]
  exact h3 j x (by have := (List.getElem?_eq_some_iff.1 hj).1; omega) hj q v hv
end Go.Proofs.Qxb6630841a
