import Derived.Test.Qxb6630808aFmtW4
import Derived.Laws.IdiomCopy
import Derived.Laws.Rows
namespace Go.Proofs.Qxb6630808aFmt
open Go.RowKit

def flat (L : List Src) : List Value := L.flatMap encS

theorem flat_length (L : List Src) : (flat L).length = L.length * 4 := by
  induction L with
  | nil => rfl
  | cons x r ih => simp only [flat, List.flatMap_cons, List.length_append, List.length_cons] at ih ⊢; rw [ih]; simp [encS]; omega

theorem flat_get : ∀ (L : List Src) (j : Nat) (q : Nat) (_ : q < 4), (flat L)[j * 4 + q]? = L[j]?.bind fun x => (encS x)[q]?
  | [], j, q, _ => by simp [flat]
  | x :: r, 0, q, hq => by
    simp only [flat, List.flatMap_cons, Nat.zero_mul, Nat.zero_add, List.getElem?_cons_zero, Option.bind_some]
    rw [List.getElem?_append_left (by simp [encS]; omega)]
  | x :: r, j + 1, q, hq => by
    have ih := flat_get r j q hq
    simp only [flat, List.flatMap_cons, List.getElem?_cons_succ] at ih ⊢
    rw [List.getElem?_append_right (by simp [encS]; omega), ← ih]
    congr 1
    simp [encS]; omega

theorem flat_mem {L : List Src} {u : Value} (h : u ∈ flat L) : u.oneCell' = true := by
  simp only [flat, List.mem_flatMap] at h
  obtain ⟨x, _, hx⟩ := h
  simp only [encS, List.mem_cons, List.not_mem_nil, or_false] at hx
  rcases hx with rfl | rfl | rfl | rfl <;> rfl

/-- Block 'sb' is a row of 'cap' sources (elements of type 'ty') of the call's own; its first ones are L. -/
def RowL (w : World) (ty sb cap : Nat) (L : List Src) : Prop :=
  ∃ cur : Array Value, w.heap[sb]? = some (.cells cur ty (0, 0)) ∧ cur.size = cap * 4 ∧ L.length ≤ cap ∧
    ∀ (j : Nat) (x : Src), L[j]? = some x → ∀ q v, (encS x)[q]? = some v → cur[j * 4 + q]? = some v

theorem RowL.lt {w : World} {ty sb cap : Nat} {L : List Src} (h : RowL w ty sb cap L) : sb < w.heap.size := by
  obtain ⟨cur, h1, _⟩ := h
  exact (Array.getElem?_eq_some_iff.1 h1).1

theorem RowL.le {w : World} {ty sb cap : Nat} {L : List Src} (h : RowL w ty sb cap L) : L.length ≤ cap := by
  obtain ⟨cur, _, _, h1, _⟩ := h
  exact h1

theorem RowL.of_block {w w' : World} {ty sb cap : Nat} {L : List Src} (h : RowL w ty sb cap L) (hb : w'.heap[sb]? = w.heap[sb]?) : RowL w' ty sb cap L := by
  obtain ⟨cur, h1, h2⟩ := h
  exact ⟨cur, hb.trans h1, h2⟩

theorem cell_row {w : World} {b t : Nat} {cur : Array Value} (h : w.heap[b]? = some (.cells cur t (0, 0))) (k : Nat) : w.cell? ⟨b, k, none⟩ = cur[k]? := by
  simp [World.cell?, h]
theorem frozen_row {w : World} {b t : Nat} {cur : Array Value} (h : w.heap[b]? = some (.cells cur t (0, 0))) (k : Nat) : w.frozen? ⟨b, k, none⟩ = false := by
  simp [World.frozen?, h]

theorem RowL.cells {w : World} {ty sb cap : Nat} {L : List Src} (h : RowL w ty sb cap L) : LCells w sb 0 L := by
  obtain ⟨cur, h1, _, _, h3⟩ := h
  intro j x hj
  have h4 := h3 j x hj
  simp only [Nat.zero_add, cell_row h1]
  exact ⟨h4 0 _ rfl, h4 1 _ rfl, h4 2 _ rfl, h4 3 _ rfl⟩

theorem RowL.frozen {w : World} {ty sb cap : Nat} {L : List Src} (h : RowL w ty sb cap L) (k : Nat) : w.frozen? ⟨sb, k, none⟩ = false := by
  obtain ⟨cur, h1, _⟩ := h
  exact frozen_row h1 k

def putAll : Array Value → Nat → List Value → Array Value
  | cur, _, [] => cur
  | cur, o, v :: r => putAll (cur.setIfInBounds o v) (o + 1) r

theorem size_putAll : ∀ (vs : List Value) (cur : Array Value) (o : Nat), (putAll cur o vs).size = cur.size
  | [], _, _ => rfl
  | v :: r, cur, o => by rw [putAll, size_putAll r]; simp

theorem putAll_out : ∀ (vs : List Value) (cur : Array Value) (o k : Nat), (k < o ∨ o + vs.length ≤ k) → (putAll cur o vs)[k]? = cur[k]?
  | [], _, _, _, _ => rfl
  | v :: r, cur, o, k, h => by
    rw [putAll, putAll_out r _ _ _ (by simp at h; omega)]
    rw [Array.getElem?_setIfInBounds_ne (by simp at h; omega)]

theorem putAll_in : ∀ (vs : List Value) (cur : Array Value) (o k : Nat), o ≤ k → k < o + vs.length → o + vs.length ≤ cur.size → (putAll cur o vs)[k]? = vs[k - o]?
  | [], _, _, _, h, h', _ => by simp at h'; omega
  | v :: r, cur, o, k, h, h', h'' => by
    rw [putAll]
    by_cases e : k = o
    · subst e
      rw [putAll_out r _ _ _ (by omega)]
      simp at h''
      simp only [Nat.sub_self, List.getElem?_cons_zero]
      rw [Array.getElem?_setIfInBounds_self_of_lt (by omega)]
    · rw [putAll_in r _ _ _ (by omega) (by simp at h'; omega) (by simp at h'' ⊢; omega)]
      rw [show k - o = (k - (o + 1)) + 1 by omega, List.getElem?_cons_succ]

theorem heap_setCells_same (g t : Nat) : ∀ (vs : List Value) (o : Nat) (w : World) (cur : Array Value), w.heap[g]? = some (.cells cur t (0, 0)) → (w.setCells g o vs).heap[g]? = some (.cells (putAll cur o vs) t (0, 0))
  | [], _, _, _, h => h
  | v :: r, o, w, cur, h => by
    rw [World.setCells, putAll]
    exact heap_setCells_same g t r (o + 1) _ _ (heap_setCell_same w g o cur t v h)

theorem heap_setCells_ne (g k : Nat) (hk : k ≠ g) : ∀ (vs : List Value) (o : Nat) (w : World), (w.setCells g o vs).heap[k]? = w.heap[k]?
  | [], _, _ => rfl
  | v :: r, o, w => by
    rw [World.setCells, heap_setCells_ne g k hk r]
    exact heap_setCell_other w ⟨g, o, none⟩ k v hk

theorem grownBy_setCells (g : Nat) : ∀ (vs : List Value) (o : Nat) (w : World), w.grownBy (w.setCells g o vs) (some g)
  | [], _, w => ⟨rfl, rfl, rfl, Nat.le_refl _, fun _ _ _ => rfl⟩
  | v :: r, o, w => by
    have h := grownBy_setCells g r (o + 1) (w.setCell ⟨g, o, none⟩ v)
    rw [World.setCells]
    refine ⟨h.os, h.tape, h.output, by have := h.size; simpa using this, fun k hk hne => ?_⟩
    rw [h.block k (by simpa using hk) hne]
    exact heap_setCell_other w ⟨g, o, none⟩ k v (fun e => hne (by rw [e]))

theorem grownBy_trans {a b c : World} {row : Option Nat} (h : a.grownBy b row) (k : b.grownBy c row) : a.grownBy c row :=
  ⟨k.os.trans h.os, k.tape.trans h.tape, k.output.trans h.output, Nat.le_trans h.size k.size, fun i hi hne => (k.block i (Nat.lt_of_lt_of_le hi h.size) hne).trans (h.block i hi hne)⟩

theorem grownBy_drew (w : World) (row : Option Nat) : w.grownBy w.drew row := ⟨rfl, rfl, rfl, Nat.le_refl _, fun _ _ _ => rfl⟩

theorem getElem?_eraseIdx_lt {α : Type} (L : List α) (i j : Nat) (h : j < i) : (L.eraseIdx i)[j]? = L[j]? := by
  rw [List.getElem?_eraseIdx]; simp [h]
theorem getElem?_eraseIdx_ge {α : Type} (L : List α) (i j : Nat) (h : i ≤ j) : (L.eraseIdx i)[j]? = L[j + 1]? := by
  rw [List.getElem?_eraseIdx]; rw [if_neg (by omega)]

/-- What slices.Delete does to the row: the tail moved down by one, the last element cleared. -/
theorem RowL.deleted {w : World} {ty sb cap i : Nat} {L : List Src} (h : RowL w ty sb cap L) (hi : i < L.length) (zs : List Value) (hz : zs.length = 4) :
    RowL ((w.setCells sb (i * 4) (flat (L.drop (i + 1)))).setCells sb ((L.length - 1) * 4) zs) ty sb cap (L.eraseIdx i) := by
  obtain ⟨cur, h1, h2, h3, h4⟩ := h
  have hl : (flat (L.drop (i + 1))).length = (L.length - (i + 1)) * 4 := by rw [flat_length, List.length_drop]
  refine ⟨_, heap_setCells_same sb ty _ _ _ _ (heap_setCells_same sb ty _ _ _ _ h1), by rw [size_putAll, size_putAll, h2], by rw [List.length_eraseIdx]; split <;> omega, ?_⟩
  intro j x hj q v hv
  have hq : q < 4 := by have := (List.getElem?_eq_some_iff.1 hv).1; simpa [encS] using this
  have hjl : j < (L.eraseIdx i).length := (List.getElem?_eq_some_iff.1 hj).1
  have hjl' : j < L.length - 1 := by rw [List.length_eraseIdx] at hjl; simp [hi] at hjl; exact hjl
  rw [putAll_out _ _ _ _ (by omega)]
  by_cases hji : j < i
  · rw [getElem?_eraseIdx_lt L i j hji] at hj
    rw [putAll_out _ _ _ _ (by omega)]
    exact h4 j x hj q v hv
  · rw [getElem?_eraseIdx_ge L i j (by omega)] at hj
    rw [putAll_in _ _ _ _ (by omega) (by rw [hl]; omega) (by rw [hl, h2]; omega)]
    rw [show j * 4 + q - i * 4 = (j - i) * 4 + q by omega, flat_get _ _ _ hq, List.getElem?_drop, show i + 1 + (j - i) = j + 1 by omega, hj]
    exact hv
end Go.Proofs.Qxb6630808aFmt
