import Derived.Test.Qxb6630808aFmtWC
namespace Go.Proofs.Qxb6630808aFmt
open Go.RowKit Go.Extern.Stop Go.Stop Go.Extern

/-- What the argument is: nil, or a slice whose cells are L's. -/
def ArgL (w : World) (a : Option Addr) (n cap : Nat) (L : List Src) : Prop :=
  n = L.length ∧ (∀ x ∈ L, x.1.size ≤ maxLen ∧ x.2.1.size ≤ maxLen ∧ x.2.2.1.size ≤ maxLen ∧ x.2.2.2.size ≤ maxLen) ∧
    ((a = none ∧ n = 0 ∧ cap = 0) ∨ ∃ ad, a = some ad ∧ (0 < n → ∃ b off, ad = ⟨b, off, none⟩ ∧ b < w.heap.size ∧ LCells w b off L))

theorem ArgL.below {w w' : World} {a : Option Addr} {n cap : Nat} {L : List Src} (h : ArgL w a n cap L) (hb : Below w.heap.size w w') : ArgL w' a n cap L := by
  obtain ⟨h1, h2, h3⟩ := h
  refine ⟨h1, h2, ?_⟩
  rcases h3 with h3 | ⟨ad, h3, h4⟩
  · exact .inl h3
  · refine .inr ⟨ad, h3, fun h0 => ?_⟩
    obtain ⟨b, off, h5, h6, h7⟩ := h4 h0
    exact ⟨b, off, h5, Nat.lt_of_lt_of_le h6 hb.size, h7.below h6 hb⟩

theorem ArgL.at {w : World} {a : Option Addr} {n cap : Nat} {L : List Src} (h : ArgL w a n cap L) (h0 : 0 < n) : ∃ b off, a = some ⟨b, off, none⟩ ∧ b < w.heap.size ∧ LCells w b off L := by
  obtain ⟨h1, h2, h3⟩ := h
  rcases h3 with ⟨_, h3, _⟩ | ⟨ad, h3, h4⟩
  · omega
  · obtain ⟨b, off, rfl, h5, h6⟩ := h4 h0
    exact ⟨b, off, h3, h5, h6⟩

theorem LCells.src {w : World} {b off : Nat} {L : List Src} (h : LCells w b off L) : SrcCells w b off L.length (fun j => L.getD j default) := by
  intro j hj
  have : L[j]? = some (L.getD j default) := by simp [List.getD, List.getElem?_eq_getElem hj]
  exact h j _ this

theorem sumN_take (L : List Src) : ∀ k, k ≤ L.length → sumN (fun j => L.getD j default) k = nameSum (L.take k)
  | 0, _ => by simp [sumN, nameSum]
  | k + 1, h => by
    have ih := sumN_take L k (by omega)
    have e : L[k]? = some (L.getD k default) := by simp [List.getD, List.getElem?_eq_getElem (show k < L.length by omega)]
    rw [sumN, ih, List.take_add_one, e]
    have : ∀ (A : List Src) (x : Src), nameSum (A ++ [x]) = nameSum A + x.1.size := by
      intro A x
      induction A with
      | nil => simp [nameSum]
      | cons a r ih => simp [nameSum, ih]; omega
    simp only [Option.toList_some, this]

theorem sumN_all (L : List Src) : sumN (fun j => L.getD j default) L.length = nameSum L := by
  rw [sumN_take L _ (Nat.le_refl _), List.take_length]

theorem bytes_L (ver : Int) (a : Option Addr) (n cap : Nat) (L : List Src) (d nm : ByteArray) (w : World) (hA : ArgL w a n cap L) (hn : n ≤ maxLen) (hd : d.size ≤ maxLen) (hnm : nm.size ≤ maxLen) :
    Calls Tryf.prog 5 #[.int .i64 ver, .slice a n cap, .string d, .string nm] w fun e w' => ∃ r : Bool, e = .returned (.bool r) ∧ Below w.heap.size w w' ∧ (r = true → nameSum L ≤ 1048576) := by
  have e := hA.1
  refine (bytes_any ver a n cap (fun j => L.getD j default) d nm w hn hd hnm (fun j hj => ?_) (fun h0 => ?_)).mono ?_
  · have e2 : L[j]? = some (L.getD j default) := by simp [List.getD, List.getElem?_eq_getElem (show j < L.length by omega)]
    exact hA.2.1 _ (List.mem_of_getElem? e2)
  · obtain ⟨b, off, h1, _, h2⟩ := hA.at h0
    rw [e]
    exact ⟨b, off, h1, h2.src⟩
  · rintro e' w' ⟨r, h1, h2, h3⟩
    exact ⟨r, h1, h2, fun hr => by have := h3 hr; rw [e, sumN_all] at this; exact this⟩

theorem bytes2_L (ver : Int) (a : Option Addr) (n cap : Nat) (L : List Src) (d nm nb : ByteArray) (w : World) (hA : ArgL w a n cap L) (hn : n ≤ maxLen) (hd : d.size ≤ maxLen) (hnm : nm.size ≤ maxLen) (hnb : nb.size ≤ maxLen) :
    Calls Tryf.prog 10 #[.int .i64 ver, .slice a n cap, .string d, .string nm, .string nb] w fun e w' => ∃ r : Bool, e = .returned (.bool r) ∧ Below w.heap.size w w' ∧ (r = true → nameSum L ≤ 1048576) := by
  have e := hA.1
  refine (bytes2_any ver a n cap (fun j => L.getD j default) d nm nb w hn hd hnm hnb (fun j hj => ?_) (fun h0 => ?_)).mono ?_
  · have e2 : L[j]? = some (L.getD j default) := by simp [List.getD, List.getElem?_eq_getElem (show j < L.length by omega)]
    exact hA.2.1 _ (List.mem_of_getElem? e2)
  · obtain ⟨b, off, h1, _, h2⟩ := hA.at h0
    rw [e]
    exact ⟨b, off, h1, h2.src⟩
  · rintro e' w' ⟨r, h1, h2, h3⟩
    exact ⟨r, h1, h2, fun hr => by have := h3 hr; rw [e, sumN_all] at this; exact this⟩

theorem size_L (a : Option Addr) (n cap : Nat) (L : List Src) (d nm nb : ByteArray) (w : World) (hA : ArgL w a n cap L) (hn : n ≤ maxLen) (hd : d.size ≤ maxLen) (hnm : nm.size ≤ maxLen) (hnb : nb.size ≤ maxLen) :
    Calls Tryf.prog 6 #[.slice a n cap, .string d, .string nm, .string nb] w fun e w' => ∃ r : Bool, e = .returned (.bool r) ∧ Below w.heap.size w w' := by
  have e := hA.1
  refine (size_any a n cap (fun j => L.getD j default) d nm nb w hn hd hnm hnb (fun j hj => ?_) (fun h0 => ?_)).mono ?_
  · have e2 : L[j]? = some (L.getD j default) := by simp [List.getD, List.getElem?_eq_getElem (show j < L.length by omega)]
    exact hA.2.1 _ (List.mem_of_getElem? e2)
  · obtain ⟨b, off, h1, h3, h2⟩ := hA.at h0
    rw [e]
    exact ⟨b, off, h1, h3, h2.src⟩
  · rintro e' w' ⟨r, h1, h2, h3⟩
    exact ⟨r, h1, h2⟩

theorem build_L (ver : Int) (a : Option Addr) (n cap : Nat) (L : List Src) (d : ByteArray) (w : World) (hA : ArgL w a n cap L) (hn : n ≤ 4096) (hsum : nameSum L ≤ 1048576) :
    Calls Tryf.prog 7 #[.int .i64 ver, .slice a n cap, .string d] w fun e w' => ∃ cb sb cap', e = .returned (.pointer (some ⟨cb, 0, none⟩)) ∧ St w' cb sb cap' ver L d ∧ w.heap.size ≤ cb ∧ w.heap.size ≤ sb ∧ Below w.heap.size w w' := by
  obtain ⟨h1, h2, h3⟩ := hA
  rcases h3 with ⟨rfl, rfl, rfl⟩ | ⟨ad, rfl, h4⟩
  · have : L = [] := List.length_eq_zero_iff.1 h1.symm
    subst this
    exact build_nil ver d w
  · exact build_some ver ad n cap L d w h1 hn hsum h4
end Go.Proofs.Qxb6630808aFmt
