import Derived.Test.Qxb6630808aFmtW8
namespace Go.Proofs.Qxb6630808aFmt
open Go.RowKit Go.Extern.Stop Go.Stop Go.Extern

def nameSum : List Src → Nat
  | [] => 0
  | x :: r => x.1.size + nameSum r

theorem lens_names (L : List Src) : Lib.lens ((L.map (·.1)).map (·.data.toList)) = nameSum L := by
  induction L with
  | nil => rfl
  | cons x r ih =>
    have e : x.1.data.toList.length = x.1.size := Array.length_toList
    simp only [nameSum, ← ih]
    simp only [Lib.lens, List.map_cons, List.sum_cons, e]

theorem join_le (L : List Src) (h1 : nameSum L ≤ 1048576) (h2 : L.length ≤ 4096) : (Lib.join ((L.map (·.1)).map (·.data.toList)) [44, 32]).length ≤ 16777216 := by
  cases L with
  | nil => simp [Lib.join_nil]
  | cons x r =>
    have h := lens_names (x :: r)
    simp only [List.map_cons] at h ⊢
    rw [Lib.join_length, h]
    simp at h2 ⊢
    omega

theorem nameSum_eraseIdx : ∀ (L : List Src) (i : Nat), nameSum (L.eraseIdx i) ≤ nameSum L
  | [], _ => by simp
  | x :: r, 0 => by simp [nameSum]
  | x :: r, i + 1 => by have := nameSum_eraseIdx r i; simp [nameSum]; omega

/-- The configuration at block cb: version, sources (a row at block sb, or nil: then sb is cb), default. -/
def St (w : World) (cb sb cap : Nat) (ver : Int) (L : List Src) (D : ByteArray) : Prop :=
  ∃ sv : Value, w.heap[cb]? = some (.cells #[.int .i64 ver, sv, .string D] 38 (0, 0)) ∧ nameSum L ≤ 1048576 ∧ cap ≤ 4096 ∧
    ((sv = .slice none 0 0 ∧ L = [] ∧ sb = cb) ∨ (sv = .slice (some ⟨sb, 0, none⟩) L.length cap ∧ sb ≠ cb ∧ RowL w 30 sb cap L))

/-- Only blocks cb and sb have turned; there may be new blocks. -/
structure Turned (w w' : World) (cb sb : Nat) : Prop where
  os : w'.os = w.os
  tape : w'.tape = w.tape
  output : w'.output = w.output
  size : w.heap.size ≤ w'.heap.size
  block : ∀ k, k < w.heap.size → k ≠ cb → k ≠ sb → w'.heap[k]? = w.heap[k]?

theorem Turned.refl (w : World) (cb sb : Nat) : Turned w w cb sb := ⟨rfl, rfl, rfl, Nat.le_refl _, fun _ _ _ _ => rfl⟩
theorem Turned.trans {a b c : World} {cb sb : Nat} (h : Turned a b cb sb) (k : Turned b c cb sb) : Turned a c cb sb :=
  ⟨k.os.trans h.os, k.tape.trans h.tape, k.output.trans h.output, Nat.le_trans h.size k.size, fun i hi h1 h2 => (k.block i (Nat.lt_of_lt_of_le hi h.size) h1 h2).trans (h.block i hi h1 h2)⟩
theorem Turned.of_below {w w' : World} (h : Below w.heap.size w w') (cb sb : Nat) : Turned w w' cb sb := ⟨h.os, h.tape, h.output, h.size, fun k hk _ _ => h.block k hk⟩
theorem Turned.of_grown {w w' : World} {sb : Nat} (h : w.grownBy w' (some sb)) (cb : Nat) : Turned w w' cb sb := ⟨h.os, h.tape, h.output, h.size, fun k hk _ h2 => h.block k hk (fun e => h2 (by cases e; rfl))⟩
theorem Turned.of_set (w : World) (cb sb i : Nat) (v : Value) : Turned w (w.setCell ⟨cb, i, none⟩ v) cb sb := ⟨rfl, rfl, rfl, by simp, fun k _ h1 _ => heap_setCell_other w ⟨cb, i, none⟩ k v h1⟩
theorem Turned.below {w w' : World} {cb sb B : Nat} (h : Turned w w' cb sb) (h1 : B ≤ cb) (h2 : B ≤ sb) (hB : B ≤ w.heap.size) : Below B w w' :=
  ⟨h.os, h.tape, h.output, h.size, fun k hk => h.block k (by omega) (by omega) (by omega)⟩

theorem St.below {w w' : World} {cb sb cap : Nat} {ver : Int} {L : List Src} {D : ByteArray} (h : St w cb sb cap ver L D) (hb : Below w.heap.size w w') : St w' cb sb cap ver L D := by
  obtain ⟨sv, h1, h2, h3, h4⟩ := h
  refine ⟨sv, (hb.block cb (Array.getElem?_eq_some_iff.1 h1).1).trans h1, h2, h3, ?_⟩
  rcases h4 with h4 | ⟨h4, h5, h6⟩
  · exact .inl h4
  · exact .inr ⟨h4, h5, h6.of_block (hb.block sb h6.lt)⟩

theorem St.lt {w : World} {cb sb cap : Nat} {ver : Int} {L : List Src} {D : ByteArray} (h : St w cb sb cap ver L D) : cb < w.heap.size := by
  obtain ⟨sv, h1, _⟩ := h
  exact (Array.getElem?_eq_some_iff.1 h1).1

theorem St.lt' {w : World} {cb sb cap : Nat} {ver : Int} {L : List Src} {D : ByteArray} (h : St w cb sb cap ver L D) : sb < w.heap.size := by
  have h0 := h.lt
  obtain ⟨sv, h1, h2, h3, h4⟩ := h
  rcases h4 with ⟨_, _, rfl⟩ | ⟨_, _, h6⟩
  · exact h0
  · exact h6.lt

theorem index_miss (F : Interp) (cb sb cap : Nat) (ver : Int) (L : List Src) (D nm : ByteArray) (w : World) (hF : F.answers w.tape) (hS : St w cb sb cap ver L D) (hmiss : ∀ x ∈ L, isN nm x = false) :
    Calls Tryf.prog 12 #[.pointer (some ⟨cb, 0, none⟩), .string nm] w fun e w' => ∃ a : Addr, e = .returned (.tuple #[.int .i64 0, .iface 54 (.pointer (some a))]) ∧ Below w.heap.size w w' := by
  have hcb := hS.lt
  have hS0 := hS
  obtain ⟨sv, h1, h2, h3, h4⟩ := hS
  have hc1 : w.cell? ⟨cb, 1, none⟩ = some sv := by rw [cell_row h1]; rfl
  have hb0 : Below w.heap.size w (w.alloc (.cells #[.string nm] 9)) := (Below.refl _ _).alloc (Nat.le_refl _) _
  refine index_miss_core F cb sv nm w hF hcb hc1 ?_ ?_
  · rcases h4 with ⟨rfl, _, _⟩ | ⟨rfl, h5, h6⟩
    · refine (idx_none none 0 _ _).mono ?_
      rintro e w' ⟨rfl, rfl⟩
      exact ⟨rfl, Below.refl _ _⟩
    · exact idx_miss sb 0 cap w.heap.size L nm _ (by have := h6.le; omega) (by have := h6.lt; simp; omega) (by simp) (h6.cells.below h6.lt hb0) (by simp) hmiss
  · intro W hW
    have hcW : W.cell? ⟨cb, 1, none⟩ = some sv := (hW.cell (p := ⟨cb, 1, none⟩) hcb).trans hc1
    by_cases hL : L.length = 0
    · rcases h4 with ⟨rfl, _, _⟩ | ⟨rfl, h5, h6⟩
      · exact names_none cb none 0 W hcW
      · rw [hL] at hcW
        exact names_none cb _ cap W hcW
    · rcases h4 with ⟨rfl, rfl, _⟩ | ⟨rfl, h5, h6⟩
      · exact absurd rfl hL
      · exact names_some cb sb cap L.length L W (h6.of_block (hW.block sb h6.lt)) rfl (by omega) (by have := h6.le; omega) (Nat.lt_of_lt_of_le hcb hW.size) hcW (join_le L h2 (by have := h6.le; omega))
end Go.Proofs.Qxb6630808aFmt
