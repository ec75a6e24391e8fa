import Derived.Test.Qxb6630808aFmtWD
namespace Go.Proofs.Qxb6630808aFmt
open Go.RowKit

/-- Either no source is called so, or there is a first one. -/
theorem first_or (nm : ByteArray) : ∀ M : List Src, (∀ x ∈ M, isN nm x = false) ∨ ∃ (i : Nat) (y : Src), M[i]? = some y ∧ isN nm y = true ∧ ∀ (j : Nat) (x : Src), j < i → M[j]? = some x → isN nm x = false
  | [] => .inl (by simp)
  | a :: r => by
    cases h : isN nm a with
    | true => exact .inr ⟨0, a, rfl, h, fun j x hj => absurd hj (Nat.not_lt_zero _)⟩
    | false =>
      rcases first_or nm r with h1 | ⟨i, y, h1, h2, h3⟩
      · refine .inl fun x hx => ?_
        rcases List.mem_cons.1 hx with rfl | hx
        · exact h
        · exact h1 x hx
      · refine .inr ⟨i + 1, y, h1, h2, fun j x hj hx => ?_⟩
        cases j with
        | zero => cases hx; exact h
        | succ j => exact h3 j x (by omega) hx

theorem erase_filter (nm : ByteArray) : ∀ (M : List Src) (i : Nat) (y : Src), M[i]? = some y → isN nm y = true → (∀ j x, j < i → M[j]? = some x → isN nm x = false) →
    M.filter (isN nm) = y :: (M.eraseIdx i).filter (isN nm) ∧ (M.eraseIdx i).filter (fun x => !isN nm x) = M.filter (fun x => !isN nm x)
  | [], i, y, h, _, _ => by cases h
  | a :: r, 0, y, h, hy, _ => by
    cases h
    simp [hy]
  | a :: r, i + 1, y, h, hy, hm => by
    have ha := hm 0 a (by omega) rfl
    have ih := erase_filter nm r i y h hy (fun j x hj hx => hm (j + 1) x (by omega) hx)
    simp [ha, ih.1, ih.2]

theorem firstN_erase (nm : ByteArray) {M : List Src} {i : Nat} {y : Src} (h : M[i]? = some y) (hy : isN nm y = true) (hf : ((firstN M).toList == nm.toList) = false) : firstN (M.eraseIdx i) = firstN M := by
  cases M with
  | nil => cases h
  | cons a r =>
    cases i with
    | zero =>
      simp only [List.getElem?_cons_zero, Option.some.injEq] at h
      subst h
      have : ((firstN (a :: r)).toList == nm.toList) = true := hy
      rw [this] at hf; cases hf
    | succ i => rfl

theorem none_filter (nm : ByteArray) {M : List Src} (h : ∀ x ∈ M, isN nm x = false) : M.filter (isN nm) = [] ∧ M.filter (fun x => !isN nm x) = M := by
  constructor
  · rw [List.filter_eq_nil_iff]; intro x hx; simp [h x hx]
  · rw [List.filter_eq_self]; intro x hx; simp [h x hx]

/-- The default behind g removals, L' being what is left. -/
def curD (d nm : ByteArray) (g : Nat) (L' : List Src) : ByteArray := if (d.toList == nm.toList) = true ∧ 0 < g then firstN L' else d

theorem curD_step {d nm : ByteArray} {g i : Nat} {M : List Src} {y : Src} (h : M[i]? = some y) (hy : isN nm y = true) : nextD (curD d nm g M) nm (M.eraseIdx i) = curD d nm (g + 1) (M.eraseIdx i) := by
  unfold nextD curD
  by_cases hd : (d.toList == nm.toList) = true
  · by_cases hg : 0 < g
    · simp only [hd, hg, true_and, if_true, Nat.succ_pos]
      cases hf : ((firstN M).toList == nm.toList) with
      | true => simp
      | false => simp [firstN_erase nm h hy hf]
    · simp only [hd, hg, true_and, if_false, if_true, Nat.succ_pos]
  · simp [hd]

/-- What holds of the configuration behind g successful removals. -/
structure Left (L : List Src) (d nm : ByteArray) (g : Nat) (L' : List Src) (D' : ByteArray) : Prop where
  named : L'.filter (isN nm) = (L.filter (isN nm)).drop g
  kept : L'.filter (fun x => !isN nm x) = L.filter (fun x => !isN nm x)
  dflt : D' = curD d nm g L'
  le : g ≤ (L.filter (isN nm)).length

theorem Left.start (L : List Src) (d nm : ByteArray) : Left L d nm 0 L d := ⟨rfl, rfl, by simp [curD], Nat.zero_le _⟩

theorem Left.step {L : List Src} {d nm : ByteArray} {g i : Nat} {L' : List Src} {D' : ByteArray} {y : Src} (h : Left L d nm g L' D') (hi : L'[i]? = some y) (hy : isN nm y = true) (hm : ∀ j x, j < i → L'[j]? = some x → isN nm x = false) :
    Left L d nm (g + 1) (L'.eraseIdx i) (nextD D' nm (L'.eraseIdx i)) ∧ (L.filter (isN nm))[g]? = some y := by
  obtain ⟨e1, e2⟩ := erase_filter nm L' i y hi hy hm
  have hd : (L.filter (isN nm)).drop g = y :: (L'.eraseIdx i).filter (isN nm) := by rw [← h.named]; exact e1
  have hg : (L.filter (isN nm))[g]? = some y := by
    have : ((L.filter (isN nm)).drop g)[0]? = some y := by rw [hd]; rfl
    rw [List.getElem?_drop] at this
    exact this
  refine ⟨⟨?_, by rw [e2]; exact h.kept, ?_, (List.getElem?_eq_some_iff.1 hg).1⟩, hg⟩
  · rw [← List.drop_drop, hd]; rfl
  · rw [h.dflt]; exact curD_step hi hy

theorem Left.fin {L : List Src} {d nm : ByteArray} {g : Nat} {L' : List Src} {D' : ByteArray} (h : Left L d nm g L' D') (hm : ∀ x ∈ L', isN nm x = false) :
    g = (L.filter (isN nm)).length ∧ L' = L.filter (fun x => !isN nm x) ∧ D' = curD d nm (L.filter (isN nm)).length (L.filter (fun x => !isN nm x)) := by
  obtain ⟨e1, e2⟩ := none_filter nm hm
  have h1 := h.named
  rw [e1] at h1
  have h2 : (L.filter (isN nm)).length ≤ g := by
    have := congrArg List.length h1
    simp at this
    omega
  have hg : g = (L.filter (isN nm)).length := Nat.le_antisymm h.le h2
  have hk : L' = L.filter (fun x => !isN nm x) := by rw [← h.kept, e2]
  exact ⟨hg, hk, by rw [h.dflt, hg, hk]⟩
end Go.Proofs.Qxb6630808aFmt
