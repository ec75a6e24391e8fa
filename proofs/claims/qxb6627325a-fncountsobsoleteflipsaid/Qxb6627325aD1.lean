import Derived.Test.Qxb6627325aW1
namespace Go.Proofs.Qxb6627325a
open Go.RowKit

/-- A section: its name, the slice of its lines as it stands, the lines. -/
structure Sc where
  name : ByteArray
  la : Option Addr
  ln : Nat
  lc : Nat
  lines : List Ln

def SCells (w : World) (b off : Nat) (S : List Sc) : Prop := ∀ (j : Nat) (x : Sc), S[j]? = some x →
  w.cell? ⟨b, off + j * 2, none⟩ = some (.string x.name) ∧ w.cell? ⟨b, off + j * 2 + 1, none⟩ = some (.slice x.la x.ln x.lc)
/-- A slice of sections reads as S. -/
structure SecsAt (w : World) (a : Option Addr) (n : Nat) (S : List Sc) : Prop where
  len : n = S.length
  at' : 0 < n → ∃ b off, a = some ⟨b, off, none⟩ ∧ b < w.heap.size ∧ SCells w b off S
  lines : ∀ x ∈ S, LinesAt w x.la x.ln x.lines

theorem SCells.below {w w' : World} {b off : Nat} {L : List Sc} (h : SCells w b off L) (hb : b < w.heap.size) (hB : Below w.heap.size w w') : SCells w' b off L := by
  intro j x hj
  obtain ⟨h0, h1⟩ := h j x hj
  exact ⟨(hB.cell (p := ⟨b, _, none⟩) hb).trans h0, (hB.cell (p := ⟨b, _, none⟩) hb).trans h1⟩
theorem SecsAt.below {w w' : World} {a : Option Addr} {n : Nat} {S : List Sc} (h : SecsAt w a n S) (hB : Below w.heap.size w w') : SecsAt w' a n S :=
  ⟨h.len, fun h0 => by
    obtain ⟨b, off, e, hb, hc⟩ := h.at' h0
    exact ⟨b, off, e, Nat.lt_of_lt_of_le hb hB.size, hc.below hb hB⟩, fun x hx => (h.lines x hx).below hB⟩

theorem lines_any (a : Option Addr) (n cap : Nat) (L : List Ln) (w : World) (hn : n ≤ 1048576) (hL : LinesAt w a n L) (hc : a = none → cap = 0) :
    Calls Try.prog 10 #[.slice a n cap] w fun e w' => ∃ a' c', e = .returned (.slice a' n c') ∧ Copied w w' a' n L := by
  cases a with
  | some a => exact (lines_some a n cap L w hn hL).mono fun e w' ⟨a', h1, h2⟩ => ⟨a', n, h1, h2⟩
  | none =>
    obtain rfl := hc rfl
    have h0 : n = 0 := by
      rcases Nat.eq_zero_or_pos n with h | h
      · exact h
      · obtain ⟨_, _, h', _⟩ := hL.at' h; cases h'
    subst h0
    refine (lines_nil w).mono ?_
    rintro e w' ⟨rfl, rfl⟩
    exact ⟨none, 0, rfl, hL, Below.refl _ _, fun h => absurd h (Nat.lt_irrefl 0)⟩

theorem below_undrew {w w' : World} (h : Below w.drew.heap.size w.drew w') : Below w.heap.size w w' := ⟨h.os, h.tape, h.output, h.size, h.block⟩
theorem below_undrewN {w w' : World} {k : Nat} (h : Below (w.drewN k).heap.size (w.drewN k) w') : Below w.heap.size w w' := ⟨h.os, h.tape, h.output, h.size, h.block⟩

/-- Every length that the copies meet is small. -/
def SmallL (L : List Ln) : Prop := ∀ x ∈ L, x.2.2.1.size ≤ 1048576 ∧ x.2.2.2.2.size ≤ 1048576
def SmallS (S : List Sc) : Prop := ∀ x ∈ S, x.name.size ≤ 1048576 ∧ x.ln ≤ 1048576 ∧ SmallL x.lines

theorem cast_le {n : Nat} (h : ¬ (1048576 : Int) < (n : Int)) : n ≤ 1048576 := by omega
end Go.Proofs.Qxb6627325a
