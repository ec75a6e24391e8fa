import Derived.Test.Qxb6627325aW2
import Derived.Test.Qxb6627325aW5
namespace Go.Proofs.Qxb6627325a
open Go.RowKit

/-! ### Plain laws on the counts -/
theorem filter_set (c : Ln → Bool) : ∀ (L : List Ln) (j : Nat) (y y' : Ln), L[j]? = some y →
    ((L.set j y').filter c).length + (c y).toNat = (L.filter c).length + (c y').toNat
  | [], j, y, y', h => by simp at h
  | x :: r, 0, y, y', h => by
    simp at h
    subst h
    simp only [List.set_cons_zero, List.filter_cons]
    cases c x <;> cases c y' <;> simp
  | x :: r, j + 1, y, y', h => by
    have ih := filter_set c r j y y' (by simpa using h)
    simp only [List.set_cons_succ, List.filter_cons]
    cases c x
    · simpa using ih
    · simp only [if_true, List.length_cons]; omega

theorem sum_set (f : Sc → Nat) : ∀ (S : List Sc) (i : Nat) (x x' : Sc), S[i]? = some x → ((S.set i x').map f).sum + f x = (S.map f).sum + f x'
  | [], i, x, x', h => by simp at h
  | z :: r, 0, x, x', h => by
    simp at h
    subst h
    simp only [List.set_cons_zero, List.map_cons, List.sum_cons]; omega
  | z :: r, i + 1, x, x', h => by
    have ih := sum_set f r i x x' (by simpa using h)
    simp only [List.set_cons_succ, List.map_cons, List.sum_cons]; omega

theorem runL_split : ∀ L : List Ln, ldL L + obL L = runL L
  | [] => rfl
  | x :: r => by
    have ih := runL_split r
    simp only [ldL, obL, runL, List.filter_cons] at ih ⊢
    cases runs x.1 <;> cases x.2.1 <;> simp <;> omega
theorem runS_split : ∀ S : List Sc, ldS S + obS S = runS S
  | [] => rfl
  | x :: r => by
    have ih := runS_split r
    have h := runL_split x.lines
    simp only [ldS, obS, runS, List.map_cons, List.sum_cons] at ih ⊢
    omega

theorem ofKey (f : List Ln → Nat) {S T : List Sc} (h : T.map key = S.map key) : (T.map fun x => f x.lines).sum = (S.map fun x => f x.lines).sum := by
  have e : ∀ U : List Sc, (U.map fun x => f x.lines) = (U.map key).map fun k => f k.2.2 := fun U => by rw [List.map_map]; rfl
  rw [e, e, h]

theorem runS_le : ∀ S : List Sc, (∀ x ∈ S, x.lines.length ≤ 1048576) → runS S ≤ S.length * 1048576
  | [], _ => Nat.zero_le _
  | x :: r, h => by
    have ih := runS_le r fun y hy => h y (List.mem_cons_of_mem _ hy)
    have h1 := h x List.mem_cons_self
    have h2 := runL_le x.lines
    simp only [runS, List.map_cons, List.sum_cons, List.length_cons] at ih ⊢
    omega

/-- The line with its mark set; the sections with one line's mark set. -/
def mark (y : Ln) (v : Bool) : Ln := (y.1, v, y.2.2)
def flipS (T : List Sc) (i j : Nat) (x : Sc) (y : Ln) (v : Bool) : List Sc := T.set i { x with lines := x.lines.set j (mark y v) }

theorem flip_ld {T : List Sc} {i j : Nat} {x : Sc} {y : Ln} (v : Bool) (hx : T[i]? = some x) (hy : x.lines[j]? = some y) :
    ldS (flipS T i j x y v) + (runs y.1 && !y.2.1).toNat = ldS T + (runs y.1 && !v).toNat := by
  have h1 := sum_set (fun x => ldL x.lines) T i x { x with lines := x.lines.set j (mark y v) } hx
  have h2 := filter_set (fun x => runs x.1 && !x.2.1) x.lines j y (mark y v) hy
  simp only [mark] at h1 h2
  simp only [ldS, flipS, ldL, mark] at h1 h2 ⊢
  omega
theorem flip_ob {T : List Sc} {i j : Nat} {x : Sc} {y : Ln} (v : Bool) (hx : T[i]? = some x) (hy : x.lines[j]? = some y) :
    obS (flipS T i j x y v) + (runs y.1 && y.2.1).toNat = obS T + (runs y.1 && v).toNat := by
  have h1 := sum_set (fun x => obL x.lines) T i x { x with lines := x.lines.set j (mark y v) } hx
  have h2 := filter_set (fun x => runs x.1 && x.2.1) x.lines j y (mark y v) hy
  simp only [mark] at h1 h2
  simp only [obS, flipS, obL, mark] at h1 h2 ⊢
  omega

/-- The law, in numbers. -/
def Law (r : Bool) (o : Bool) (A B C D R : Int) : Prop :=
  0 ≤ A ∧ 0 ≤ B ∧ 0 ≤ C ∧ 0 ≤ D ∧ R ≤ 1099511627776 ∧ A + B = R ∧ C + D = R ∧ (r = false → C = A ∧ D = B) ∧ (r = true → o = true → C = A + 1 ∧ D = B - 1) ∧ (r = true → o = false → C = A - 1 ∧ D = B + 1)

theorem law {S T1 T2 : List Sc} {n i j : Nat} {x : Sc} {y : Ln} (hn : n ≤ 1048576) (hl : n = S.length) (hs : ∀ x ∈ S, x.lines.length ≤ 1048576) (h1 : T1.map key = S.map key) (h2 : T2.map key = S.map key)
    (hx : T2[i]? = some x) (hy : x.lines[j]? = some y) :
    Law (runs y.1) y.2.1 (ldS T1) (obS T1) (ldS (flipS T2 i j x y (!y.2.1))) (obS (flipS T2 i j x y (!y.2.1))) (runS S) := by
  have a1 : ldS T1 = ldS S := ofKey ldL h1
  have a2 : obS T1 = obS S := ofKey obL h1
  have b1 : ldS T2 = ldS S := ofKey ldL h2
  have b2 : obS T2 = obS S := ofKey obL h2
  have c := runS_split S
  have d := runS_le S hs
  have f1 := flip_ld (!y.2.1) hx hy
  have f2 := flip_ob (!y.2.1) hx hy
  rw [b1] at f1
  rw [b2] at f2
  rw [a1, a2]
  generalize ldS (flipS T2 i j x y (!y.2.1)) = C at *
  generalize obS (flipS T2 i j x y (!y.2.1)) = D at *
  unfold Law
  cases hr : runs y.1 <;> cases ho : y.2.1 <;> simp [hr, ho] at f1 f2 ⊢ <;> omega

/-! ### The flip in memory -/
theorem PartRow.flip {w : World} {b n j : Nat} {L : List Ln} {y : Ln} {v : Bool} (h : PartRow w b n n L) (hn : n = L.length) (hy : L[j]? = some y) :
    PartRow (w.setCell ⟨b, j * 5 + 1, none⟩ (.bool v)) b n n (L.set j (mark y v)) := by
  obtain ⟨cur, h1, h2, h3⟩ := h
  have hj : j < n := by have := (List.getElem?_eq_some_iff.1 hy).1; omega
  refine ⟨_, heap_setCell_same w b (j * 5 + 1) cur 39 (.bool v) h1, by simp [h2], fun k x hk hx q u hu => ?_⟩
  have hq : q < 5 := by have := (List.getElem?_eq_some_iff.1 hu).1; simpa [encL] using this
  by_cases e : k = j
  · subst e
    rw [List.getElem?_set_self (by omega)] at hx
    cases hx
    by_cases eq : q = 1
    · subst eq
      rw [Array.getElem?_setIfInBounds_self_of_lt (by omega)]
      exact hu
    · rw [Array.getElem?_setIfInBounds_ne (by omega)]
      refine h3 k y hj hy q u ?_
      match q, hq, eq, hu with
      | 0, _, _, hu => exact hu
      | 2, _, _, hu => exact hu
      | 3, _, _, hu => exact hu
      | 4, _, _, hu => exact hu
  · rw [List.getElem?_set_ne (fun h => e h.symm)] at hx
    rw [Array.getElem?_setIfInBounds_ne (by omega)]
    exact h3 k x hk hx q u hu

theorem Half.secs {w : World} {nb n : Nat} {S T : List Sc} (h : Half w nb n n S T) : SecsAt w (some ⟨nb, 0, none⟩) n T := by
  obtain ⟨⟨cur, h1, h2, h3⟩, hl, hs, ho, hp⟩ := h
  refine ⟨hl.symm, fun _ => ⟨nb, 0, rfl, (Array.getElem?_eq_some_iff.1 h1).1, fun j x hj => ?_⟩, fun x hx => ⟨(ho x hx).1, fun h0 => ?_⟩⟩
  · simp only [Nat.zero_add, cell_row h1]
    exact h3 j x hj
  · obtain ⟨b, e, hb, hr⟩ := (ho x hx).2 h0
    exact ⟨b, 0, e, hr.lt, hr.cells (ho x hx).1⟩

theorem Half.flip {w : World} {nb n b i j : Nat} {S T : List Sc} {x : Sc} {y : Ln} {v : Bool} (h : Half w nb n n S T) (hx : T[i]? = some x) (hy : x.lines[j]? = some y) (hb : x.la = some ⟨b, 0, none⟩) :
    Half (w.setCell ⟨b, j * 5 + 1, none⟩ (.bool v)) nb n n (flipS T i j x y v) (flipS T i j x y v) := by
  obtain ⟨⟨cur, h1, h2, h3⟩, hl, hs, ho, hp⟩ := h
  have hxm : x ∈ T := List.mem_of_getElem? hx
  have hi : i < T.length := (List.getElem?_eq_some_iff.1 hx).1
  have hj : j < x.lines.length := (List.getElem?_eq_some_iff.1 hy).1
  have hx0 : 0 < x.ln := by have := (ho x hxm).1; omega
  obtain ⟨b', e', hnb, hrow⟩ := (ho x hxm).2 hx0
  rw [hb] at e'; cases e'
  have hlen : (flipS T i j x y v).length = n := by simp [flipS, hl]
  refine ⟨⟨cur, (heap_setCell_other w ⟨b, j * 5 + 1, none⟩ nb _ (by simp; omega)).trans h1, h2, fun k z hz => ?_⟩, hlen, by rw [List.take_of_length_le (by omega)], fun z hz => ?_, ?_⟩
  · by_cases e : k = i
    · subst e
      unfold flipS at hz
      rw [List.getElem?_set_self hi] at hz
      cases hz
      exact h3 k x hx
    · unfold flipS at hz
      rw [List.getElem?_set_ne (fun h => e h.symm)] at hz
      exact h3 k z hz
  · obtain ⟨k, hk⟩ := List.getElem?_of_mem hz
    by_cases e : k = i
    · subst e
      unfold flipS at hk
      rw [List.getElem?_set_self hi] at hk
      cases hk
      refine ⟨by simp [(ho x hxm).1], fun _ => ⟨b, hb, hnb, hrow.flip (ho x hxm).1 hy⟩⟩
    · unfold flipS at hk
      rw [List.getElem?_set_ne (fun h => e h.symm)] at hk
      have hzm : z ∈ T := List.mem_of_getElem? hk
      refine ⟨(ho z hzm).1, fun h0 => ?_⟩
      obtain ⟨bz, ez, hbz, hrz⟩ := (ho z hzm).2 h0
      have hne : bz ≠ b := by
        have hk' : k < T.length := (List.getElem?_eq_some_iff.1 hk).1
        have pk := List.pairwise_iff_getElem.1 hp
        rcases Nat.lt_or_gt_of_ne e with hlt | hgt
        · have := pk k i hk' hi hlt
          rw [(List.getElem?_eq_some_iff.1 hk).2, (List.getElem?_eq_some_iff.1 hx).2] at this
          have := this bz b h0 hx0 ez hb
          omega
        · have := pk i k hi hk' hgt
          rw [(List.getElem?_eq_some_iff.1 hk).2, (List.getElem?_eq_some_iff.1 hx).2] at this
          have := this b bz hx0 h0 hb ez
          omega
      exact ⟨bz, ez, hbz, hrz.block (heap_setCell_other w ⟨b, j * 5 + 1, none⟩ bz _ hne)⟩
  · unfold flipS
    rw [List.pairwise_iff_getElem] at hp ⊢
    intro p q hp' hq' hpq
    simp only [List.length_set] at hp' hq'
    have := hp p q hp' hq' hpq
    have eqa : ∀ (k : Nat) (hk : k < (T.set i { x with lines := x.lines.set j (mark y v) }).length) (hk' : k < T.length), (T.set i { x with lines := x.lines.set j (mark y v) })[k].la = T[k].la ∧ (T.set i { x with lines := x.lines.set j (mark y v) })[k].ln = T[k].ln := by
      intro k hk hk'
      rw [List.getElem_set]
      by_cases e : i = k
      · subst e
        rw [if_pos rfl, (List.getElem?_eq_some_iff.1 hx).2]
        exact ⟨rfl, rfl⟩
      · rw [if_neg e]
        exact ⟨rfl, rfl⟩
    intro b1 b2 z1 z2 y1 y2
    rw [(eqa p _ hp').2] at z1
    rw [(eqa q _ hq').2] at z2
    rw [(eqa p _ hp').1] at y1
    rw [(eqa q _ hq').1] at y2
    exact this b1 b2 z1 z2 y1 y2
end Go.Proofs.Qxb6627325a
