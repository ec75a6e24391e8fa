import Derived.Test.Qxb6630808aFmtP1
namespace Go.Proofs.Qxb6630808aFmt
open Go.RowKit
set_option linter.unusedSimpArgs false

def fnd (nm : ByteArray) (L : List Src) : Option Src := L.find? (isN nm)
def era (nm : ByteArray) (L : List Src) : List Src := L.eraseP (isN nm)
def dfl (D nm : ByteArray) (L : List Src) : ByteArray := if (fnd nm L).isSome = true then nextD D nm (era nm L) else D

theorem miss_of {nm : ByteArray} {L : List Src} (h : ∀ x ∈ L, isN nm x = false) : fnd nm L = none ∧ era nm L = L ∧ ∀ D, dfl D nm L = D := by
  have h1 : fnd nm L = none := by
    unfold fnd
    rw [List.find?_eq_none]
    intro x hx; simp [h x hx]
  refine ⟨h1, ?_, fun D => by simp [dfl, h1]⟩
  unfold era
  rw [List.eraseP_of_forall_not]
  intro x hx; simp [h x hx]

theorem hit_of {nm : ByteArray} : ∀ {L : List Src} {i : Nat} {y : Src}, L[i]? = some y → isN nm y = true → (∀ (j : Nat) (x : Src), j < i → L[j]? = some x → isN nm x = false) → fnd nm L = some y ∧ era nm L = L.eraseIdx i
  | [], i, y, h, _, _ => by cases h
  | a :: r, 0, y, h, hy, _ => by
    simp only [List.getElem?_cons_zero, Option.some.injEq] at h
    subst h
    simp [fnd, era, List.find?_cons, hy, List.eraseP_cons]
  | a :: r, i + 1, y, h, hy, hm => by
    have ha := hm 0 a (by omega) rfl
    obtain ⟨h1, h2⟩ := hit_of (L := r) (i := i) h hy (fun j x hj hx => hm (j + 1) x (by omega) hx)
    unfold fnd at h1 ⊢
    unfold era at h2 ⊢
    simp [List.find?_cons, ha, h1, List.eraseP_cons, h2]

theorem apart_of {a b : ByteArray} (hab : ¬ a.toList = b.toList) {x : Src} (h : isN a x = true) : isN b x = false := by
  unfold isN at h ⊢
  rw [beq_iff_eq] at h
  rw [h, beq_eq_false_iff_ne]
  exact hab

theorem fnd_era {a b : ByteArray} (hab : ¬ a.toList = b.toList) : ∀ L : List Src, fnd b (era a L) = fnd b L
  | [] => rfl
  | x :: r => by
    have ih := fnd_era hab r
    unfold fnd era at ih ⊢
    cases ha : isN a x with
    | true => simp [List.eraseP_cons, ha, List.find?_cons, apart_of hab ha]
    | false =>
      simp only [List.eraseP_cons, ha, Bool.false_eq_true, cond_false, List.find?_cons]
      cases isN b x <;> simp [ih]

theorem era_comm {a b : ByteArray} (hab : ¬ a.toList = b.toList) : ∀ L : List Src, era b (era a L) = era a (era b L)
  | [] => rfl
  | x :: r => by
    have ih := era_comm hab r
    unfold era at ih ⊢
    cases ha : isN a x with
    | true => simp [List.eraseP_cons, ha, apart_of hab ha]
    | false =>
      cases hb : isN b x with
      | true => simp [List.eraseP_cons, ha, hb]
      | false => simp [List.eraseP_cons, ha, hb, ih]

theorem era_none {nm : ByteArray} {L : List Src} (h : (fnd nm L).isSome = false) : era nm L = L := by
  unfold fnd at h
  unfold era
  rw [List.eraseP_of_forall_not]
  intro x hx hp
  have : (L.find? (isN nm)).isSome = true := List.find?_isSome.2 ⟨x, hx, hp⟩
  rw [this] at h; cases h

theorem era_len (nm : ByteArray) (L : List Src) : ((era nm L).length : Int) = (L.length : Int) - (if (fnd nm L).isSome = true then 1 else 0) := by
  cases h : (fnd nm L).isSome with
  | false => rw [era_none h]; simp
  | true =>
    unfold fnd at h
    obtain ⟨x, hx, hp⟩ := List.find?_isSome.1 h
    have := List.length_eraseP_of_mem hx hp
    unfold era
    rw [this]
    have hl : 0 < L.length := List.length_pos_of_mem hx
    simp; omega

theorem firstN_era {nm : ByteArray} {M : List Src} (h : (fnd nm M).isSome = true) (hf : ((firstN M).toList == nm.toList) = false) : firstN (era nm M) = firstN M := by
  cases M with
  | nil => cases h
  | cons x r =>
    have hx : isN nm x = false := hf
    simp [era, List.eraseP_cons, hx, firstN]

/-- The default behind two removals, told without their order. -/
theorem dfl_two {a b : ByteArray} (hab : ¬ a.toList = b.toList) (D : ByteArray) (L : List Src) :
    dfl (dfl D a L) b (era a L) = if ((D.toList == a.toList) = true ∧ (fnd a L).isSome = true) ∨ ((D.toList == b.toList) = true ∧ (fnd b L).isSome = true) then firstN (era b (era a L)) else D := by
  have hfb := fnd_era hab L
  cases fa : (fnd a L).isSome with
  | false =>
    have ea := era_none fa
    have e1 : dfl D a L = D := by simp [dfl, fa]
    rw [e1, ea]
    cases fb : (fnd b L).isSome with
    | false => simp [dfl, fb]
    | true => simp [dfl, fb, nextD]
  | true =>
    have e1 : dfl D a L = nextD D a (era a L) := by simp [dfl, fa]
    rw [e1]
    unfold dfl
    rw [hfb]
    cases da : (D.toList == a.toList) with
    | true =>
      have e2 : nextD D a (era a L) = firstN (era a L) := by simp [nextD, da]
      rw [e2]
      cases fb : (fnd b L).isSome with
      | false =>
        have : era b (era a L) = era a L := era_none (by rw [hfb]; exact fb)
        simp [this]
      | true =>
        simp only [if_true, and_self, true_or]
        unfold nextD
        cases hf : ((firstN (era a L)).toList == b.toList) with
        | true => simp
        | false => simp [firstN_era (by rw [hfb]; exact fb) hf]
    | false =>
      have e2 : nextD D a (era a L) = D := by simp [nextD, da]
      rw [e2]
      cases fb : (fnd b L).isSome with
      | false => simp
      | true => simp [nextD]

theorem dfl_comm {a b : ByteArray} (hab : ¬ a.toList = b.toList) (D : ByteArray) (L : List Src) : dfl (dfl D a L) b (era a L) = dfl (dfl D b L) a (era b L) := by
  have hba : ¬ b.toList = a.toList := fun h => hab h.symm
  rw [dfl_two hab, dfl_two hba, era_comm hab]
  by_cases h : ((D.toList == a.toList) = true ∧ (fnd a L).isSome = true) ∨ ((D.toList == b.toList) = true ∧ (fnd b L).isSome = true)
  · rw [if_pos h, if_pos h.symm]
  · rw [if_neg h, if_neg (fun k => h k.symm)]
end Go.Proofs.Qxb6630808aFmt
