import Derived.Test.Qxb6630808aFmtWF
namespace Go.Proofs.Qxb6630808aFmt
open Go.RowKit

/-- The first index of that name among the first k, or -1. -/
def fx (nm : ByteArray) (L : List Src) : Nat → Int
  | 0 => -1
  | k + 1 => if fx nm L k < 0 ∧ (L[k]?.any (isN nm)) = true then (k : Int) else fx nm L k

theorem fx_range (nm : ByteArray) (L : List Src) : ∀ k, -1 ≤ fx nm L k ∧ fx nm L k < k ∨ fx nm L k = -1
  | 0 => .inr rfl
  | k + 1 => by
    have ih := fx_range nm L k
    unfold fx
    split <;> omega

theorem fx_hit {nm : ByteArray} {L : List Src} {k : Nat} {x : Src} {z : Int} (hx : L[k]? = some x) (hz : Hid (z = fx nm L k)) (h0 : z < 0) (h : isN nm x = true) : fx nm L (k + 1) = k := by
  have := hz.out
  rw [fx, if_pos ⟨by omega, by simp [hx, h]⟩]
theorem fx_miss {nm : ByteArray} {L : List Src} {k : Nat} {x : Src} {z : Int} (hx : L[k]? = some x) (hz : Hid (z = fx nm L k)) (h : isN nm x = false) : fx nm L (k + 1) = z := by
  have := hz.out
  rw [fx, if_neg (by simp [hx, h])]; exact this.symm
theorem fx_old {nm : ByteArray} {L : List Src} {k : Nat} {z : Int} (hz : Hid (z = fx nm L k)) (h0 : ¬ z < 0) : fx nm L (k + 1) = z := by
  have := hz.out
  rw [fx, if_neg (fun h => by omega)]; exact this.symm

theorem fx_at (nm : ByteArray) (L : List Src) : ∀ k, (fx nm L k < 0 ∧ (∀ (j : Nat) (x : Src), j < k → L[j]? = some x → isN nm x = false)) ∨
    ∃ (i : Nat) (y : Src), fx nm L k = i ∧ i < k ∧ L[i]? = some y ∧ isN nm y = true ∧ ∀ (j : Nat) (x : Src), j < i → L[j]? = some x → isN nm x = false
  | 0 => .inl ⟨by simp [fx], fun j x hj => absurd hj (Nat.not_lt_zero _)⟩
  | k + 1 => by
    rcases fx_at nm L k with ⟨h1, h2⟩ | ⟨i, y, h1, h2, h3, h4, h5⟩
    · cases hk : L[k]? with
      | none =>
        refine .inl ⟨by rw [fx, if_neg (by simp [hk])]; exact h1, fun j x hj hx => ?_⟩
        by_cases e : j = k
        · subst e; rw [hk] at hx; cases hx
        · exact h2 j x (by omega) hx
      | some x0 =>
        cases hx0 : isN nm x0 with
        | true => exact .inr ⟨k, x0, by rw [fx, if_pos ⟨h1, by simp [hk, hx0]⟩], by omega, hk, hx0, h2⟩
        | false =>
          refine .inl ⟨by rw [fx, if_neg (by simp [hk, hx0])]; exact h1, fun j x hj hx => ?_⟩
          by_cases e : j = k
          · subst e; rw [hk] at hx; cases hx; exact hx0
          · exact h2 j x (by omega) hx
    · exact .inr ⟨i, y, by rw [fx, if_neg (fun h => by omega)]; exact h1, by omega, h3, h4, h5⟩

/-- At the loop's end: the index is there just where the name is found, and points at what is found. -/
theorem fx_end (nm : ByteArray) (L : List Src) : decide ((0 : Int) ≤ fx nm L L.length) = (fnd nm L).isSome ∧ ((fnd nm L).isSome = true → ∃ i : Nat, fx nm L L.length = i ∧ L[i]? = some (gotS (fnd nm L))) := by
  rcases fx_at nm L L.length with ⟨h1, h2⟩ | ⟨i, y, h1, h2, h3, h4, h5⟩
  · have hm : ∀ x ∈ L, isN nm x = false := fun x hx => by
      obtain ⟨j, hj⟩ := List.getElem?_of_mem hx
      exact h2 j x (List.getElem?_eq_some_iff.1 hj).1 hj
    obtain ⟨e1, _, _⟩ := miss_of hm
    rw [e1]
    exact ⟨by simp; omega, fun h => by cases h⟩
  · obtain ⟨e1, _⟩ := hit_of h3 h4 h5
    rw [e1]
    exact ⟨by simp; omega, fun _ => ⟨i, h1, h3⟩⟩

def b2i (f : Bool) : Int := if f = true then 1 else 0
theorem b2i_bd (f : Bool) : 0 ≤ b2i f ∧ b2i f ≤ 1 := by cases f <;> simp [b2i]

theorem len_two {a b : ByteArray} (hab : ¬ a.toList = b.toList) (L : List Src) : ((era b (era a L)).length : Int) = (L.length : Int) - (b2i (fnd a L).isSome + b2i (fnd b L).isSome) := by
  rw [era_len, era_len, fnd_era hab]
  unfold b2i
  omega

/-- The two configurations, and what lies beside them. -/
structure Two (w wr : World) (cb1 sb1 cap1 cb2 sb2 cap2 : Nat) (ver : Int) (L1 : List Src) (D1 : ByteArray) (L2 : List Src) (D2 : ByteArray) : Prop where
  below : Below w.heap.size w wr
  st1 : St wr cb1 sb1 cap1 ver L1 D1
  st2 : St wr cb2 sb2 cap2 ver L2 D2
  apart : w.heap.size ≤ cb1 ∧ w.heap.size ≤ sb1 ∧ w.heap.size ≤ cb2 ∧ w.heap.size ≤ sb2 ∧ cb1 ≠ cb2 ∧ cb1 ≠ sb2 ∧ sb1 ≠ cb2 ∧ sb1 ≠ sb2

theorem St.other {w w' : World} {cb sb cap c s : Nat} {ver : Int} {L : List Src} {D : ByteArray} (h : St w cb sb cap ver L D) (hT : Turned w w' c s) (n1 : cb ≠ c) (n2 : cb ≠ s) (n3 : sb ≠ c) (n4 : sb ≠ s) : St w' cb sb cap ver L D := by
  have l1 := h.lt
  have l2 := h.lt'
  obtain ⟨sv, h1, h2, h3, h4⟩ := h
  refine ⟨sv, (hT.block cb l1 n1 n2).trans h1, h2, h3, ?_⟩
  rcases h4 with h4 | ⟨h4, h5, h6⟩
  · exact .inl h4
  · exact .inr ⟨h4, h5, h6.of_block (hT.block sb l2 n3 n4)⟩

section
variable {w wr w' : World} {cb1 sb1 cap1 cb2 sb2 cap2 : Nat} {ver : Int} {L1 L2 : List Src} {D1 D2 : ByteArray}

theorem Two.later (h : Two w wr cb1 sb1 cap1 cb2 sb2 cap2 ver L1 D1 L2 D2) (hb : Below wr.heap.size wr w') : Two w w' cb1 sb1 cap1 cb2 sb2 cap2 ver L1 D1 L2 D2 :=
  ⟨h.below.trans (hb.mono h.below.size), h.st1.below hb, h.st2.below hb, h.apart⟩

theorem Two.first {L1' : List Src} {D1' : ByteArray} (h : Two w wr cb1 sb1 cap1 cb2 sb2 cap2 ver L1 D1 L2 D2) (hS : St w' cb1 sb1 cap1 ver L1' D1') (hT : Turned wr w' cb1 sb1) : Two w w' cb1 sb1 cap1 cb2 sb2 cap2 ver L1' D1' L2 D2 := by
  obtain ⟨a1, a2, a3, a4, a5, a6, a7, a8⟩ := h.apart
  exact ⟨h.below.trans (hT.below a1 a2 h.below.size), hS, h.st2.other hT a5.symm a7.symm a6.symm a8.symm, h.apart⟩

theorem Two.second {L2' : List Src} {D2' : ByteArray} (h : Two w wr cb1 sb1 cap1 cb2 sb2 cap2 ver L1 D1 L2 D2) (hS : St w' cb2 sb2 cap2 ver L2' D2') (hT : Turned wr w' cb2 sb2) : Two w w' cb1 sb1 cap1 cb2 sb2 cap2 ver L1 D1 L2' D2' := by
  obtain ⟨a1, a2, a3, a4, a5, a6, a7, a8⟩ := h.apart
  exact ⟨h.below.trans (hT.below a3 a4 h.below.size), h.st1.other hT a5 a6 a7 a8, hS, h.apart⟩
end

/-- Block b of the call's own holds the source x. -/
def Box (wr : World) (b : Nat) (x : Src) : Prop := wr.heap[b]? = some (.cells #[.string x.1, .string x.2.1, .string x.2.2.1, .string x.2.2.2] 30 (0, 0))
theorem Box.lt {wr : World} {b : Nat} {x : Src} (h : Box wr b x) : b < wr.heap.size := (Array.getElem?_eq_some_iff.1 h).1
theorem Box.later {wr w' : World} {b : Nat} {x : Src} (h : Box wr b x) (hb : Below wr.heap.size wr w') : Box w' b x := (hb.block b h.lt).trans h
theorem Box.turned {wr w' : World} {b c s : Nat} {x : Src} (h : Box wr b x) (hT : Turned wr w' c s) (n1 : b ≠ c) (n2 : b ≠ s) : Box w' b x := (hT.block b h.lt n1 n2).trans h
theorem Box.new (wr : World) (x : Src) : Box (wr.alloc (.cells #[.string x.1, .string x.2.1, .string x.2.2.1, .string x.2.2.2] 30)) wr.heap.size x := heap_alloc_new wr _
end Go.Proofs.Qxb6630808aFmt
