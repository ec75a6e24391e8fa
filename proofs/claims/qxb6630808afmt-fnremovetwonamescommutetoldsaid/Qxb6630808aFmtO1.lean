import Derived.Test.Qxb6630808aFmtWE
import Derived.Deep.Slices
import Derived.Lib.SmallJoins
import Derived.ChangeOld
namespace Go.Proofs.Qxb6630808aFmt
open Go.ChangeShapes Go.WideShapes Go.ChangeAt Go.RowKit Go.Joins Go.Deep

theorem Tryf.cells26 : Tryf.prog.cellsOf 26 = 4 := by kernel_rfl
theorem Tryf.cells9 : Tryf.prog.cellsOf 9 = 1 := by kernel_rfl

theorem list4 {α : Type} {cs : List α} (h : cs.length = 4) : ∃ c0 c1 c2 c3, cs = [c0, c1, c2, c3] := by
  match cs, h with
  | [c0, c1, c2, c3], _ => exact ⟨c0, c1, c2, c3, rfl⟩

theorem openElem {H : Type} {enc : TypeId × Value → H} {W : World} {base : Nat} {spare : Nat → Bool} {held : Bool} {fuel : Nat} {cs : List Value} {x : DataW H × List MemPlace}
    (h : DataW.trod enc Tryf.prog W base spare held fuel 26 cs = some x) :
    ∃ s : Src, cs = [.string s.1, .string s.2.1, .string s.2.2.1, .string s.2.2.2] ∧ (s.1.size ≤ maxLen ∧ s.2.1.size ≤ maxLen ∧ s.2.2.1.size ≤ maxLen ∧ s.2.2.2.size ≤ maxLen) := by
  obtain ⟨y0, y1, y2, y3, m, _, hl, h0, h1, h2, h3⟩ := trod_struct4 Tryf.underlying26 h
  rw [Tryf.cells26] at hl
  obtain ⟨c0, c1, c2, c3, rfl⟩ := list4 hl
  simp only [Tryf.cells9, List.drop_zero, List.drop_succ_cons, List.take_succ_cons, List.take_zero] at h0 h1 h2 h3
  obtain ⟨s0, e0, _, z0⟩ := DataW.trod_string Tryf.underlying9 h0
  obtain ⟨s1, e1, _, z1⟩ := DataW.trod_string Tryf.underlying9 h1
  obtain ⟨s2, e2, _, z2⟩ := DataW.trod_string Tryf.underlying9 h2
  obtain ⟨s3, e3, _, z3⟩ := DataW.trod_string Tryf.underlying9 h3
  simp only [List.cons.injEq, and_true] at e0 e1 e2 e3
  exact ⟨(s0, s1, s2, s3), by rw [e0, e1, e2, e3], z0, z1, z2, z3⟩

theorem openL {H : Type} {enc : TypeId × Value → H} {W : World} {a : Option Addr} {n cap : Nat} {d : DataW H} {p : List MemPlace} (h : DataW.Trod enc Tryf.prog W 0 (fun _ => true) true 22 (.slice a n cap) d p) :
    ∃ L, ArgL W a n cap L ∧ n ≤ maxLen := by
  obtain ⟨fuel, hf⟩ := h
  rcases open_slice Tryf.underlying22 hf with ⟨hcs, _⟩ | ⟨ad, len, cap', m, nf, D, Pl, hcs, _, hl, hm, hmm, _, hel⟩
  · simp [Value.cells] at hcs
    obtain ⟨rfl, rfl, rfl⟩ := hcs
    exact ⟨[], ⟨rfl, by simp, .inl ⟨rfl, rfl, rfl⟩⟩, Nat.zero_le _⟩
  · simp [Value.cells] at hcs
    obtain ⟨rfl, rfl, rfl⟩ := hcs
    simp only [if_true] at hmm
    subst hmm
    rw [Tryf.cells26] at hel
    obtain ⟨Z, hZ⟩ := choose_lt (α := Src) (n := n) (p := fun i s => (W.cell? (ad.add (i * 4)) = some (.string s.1) ∧ W.cell? ((ad.add (i * 4)).add 1) = some (.string s.2.1) ∧ W.cell? ((ad.add (i * 4)).add 2) = some (.string s.2.2.1) ∧ W.cell? ((ad.add (i * 4)).add 3) = some (.string s.2.2.2)) ∧
        (s.1.size ≤ maxLen ∧ s.2.1.size ≤ maxLen ∧ s.2.2.1.size ≤ maxLen ∧ s.2.2.2.size ≤ maxLen)) (fun i hi => by
      obtain ⟨cs', h1, h2⟩ := hel i (by omega)
      obtain ⟨s, rfl, hs⟩ := openElem h2
      obtain ⟨_, _, hc⟩ := World.cells?_some h1
      refine ⟨s, ⟨?_, ?_, ?_, ?_⟩, hs⟩
      · have := hc 0 (by omega); simpa [Addr.add] using this
      · exact hc 1 (by omega)
      · exact hc 2 (by omega)
      · exact hc 3 (by omega))
    refine ⟨(List.range n).map Z, ⟨by simp, ?_, .inr ⟨ad, rfl, fun h0 => ?_⟩⟩, by omega⟩
    · intro x hx
      obtain ⟨i, hi, rfl⟩ := List.mem_map.1 hx
      exact (hZ i (List.mem_range.1 hi)).2
    · have hc0 := (hZ 0 h0).1.1
      have hsp : ad.spot = none := by simpa [Addr.add] using World.cell?_spot hc0
      obtain ⟨b, off, spot⟩ := ad
      simp only at hsp
      subst hsp
      refine ⟨b, off, rfl, by simpa [Addr.add] using World.block_lt_of_cell? W _ hc0, fun j x hj => ?_⟩
      have hj' : j < n := by have := (List.getElem?_eq_some_iff.1 hj).1; simpa using this
      rw [List.getElem?_map, List.getElem?_range hj'] at hj
      cases hj
      have := (hZ j hj').1
      simpa only [Addr.add_lit] using this
end Go.Proofs.Qxb6630808aFmt
