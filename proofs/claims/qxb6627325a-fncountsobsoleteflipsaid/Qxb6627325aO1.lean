import Derived.Test.Qxb6627325aWL
import Derived.Deep.Slices
import Derived.Lib.SmallJoins
import Derived.ChangeOld
namespace Go.Proofs.Qxb6627325a
open Go.ChangeShapes Go.WideShapes Go.ChangeAt Go.RowKit Go.Joins Go.Deep

theorem Try.cells36 : Try.prog.cellsOf 36 = 5 := by kernel_rfl
theorem Try.cells27 : Try.prog.cellsOf 27 = 2 := by kernel_rfl
theorem Try.cells22 : Try.prog.cellsOf 22 = 1 := by kernel_rfl
theorem Try.cells9 : Try.prog.cellsOf 9 = 1 := by kernel_rfl
theorem Try.cells4 : Try.prog.cellsOf 4 = 1 := by kernel_rfl
theorem Try.cells3 : Try.prog.cellsOf 3 = 1 := by kernel_rfl

theorem list5 {α : Type} {cs : List α} (h : cs.length = 5) : ∃ c0 c1 c2 c3 c4, cs = [c0, c1, c2, c3, c4] := by
  match cs, h with
  | [c0, c1, c2, c3, c4], _ => exact ⟨c0, c1, c2, c3, c4, rfl⟩
theorem list2 {α : Type} {cs : List α} (h : cs.length = 2) : ∃ c0 c1, cs = [c0, c1] := by
  match cs, h with
  | [c0, c1], _ => exact ⟨c0, c1, rfl⟩

theorem trod_struct5 {H : Type} {enc : TypeId × Value → H} {P : Program} {w : World} {base : Nat} {spare : Nat → Bool} {held : Bool} {t : TypeId} {f0 f1 f2 f3 f4 : Field} {fuel : Nat} {cs : List Value} {x : DataW H × List MemPlace} (ht : P.underlying t = some (.struct #[f0, f1, f2, f3, f4])) (h : DataW.trod enc P w base spare held fuel t cs = some x) :
    ∃ y0 y1 y2 y3 y4 n, cs.length = P.cellsOf t ∧ DataW.trod enc P w base spare held n f0.type ((cs.drop f0.offset).take (P.cellsOf f0.type)) = some y0 ∧
      DataW.trod enc P w base spare held n f1.type ((cs.drop f1.offset).take (P.cellsOf f1.type)) = some y1 ∧ DataW.trod enc P w base spare held n f2.type ((cs.drop f2.offset).take (P.cellsOf f2.type)) = some y2 ∧
      DataW.trod enc P w base spare held n f3.type ((cs.drop f3.offset).take (P.cellsOf f3.type)) = some y3 ∧ DataW.trod enc P w base spare held n f4.type ((cs.drop f4.offset).take (P.cellsOf f4.type)) = some y4 := by
  obtain ⟨xs, n, _, rfl, hl, hlen, hf⟩ := DataW.trod_struct ht h
  match xs, hlen with
  | [y0, y1, y2, y3, y4], _ => exact ⟨y0, y1, y2, y3, y4, n, hl, by simpa using hf 0 f0 rfl, by simpa using hf 1 f1 rfl, by simpa using hf 2 f2 rfl, by simpa using hf 3 f3 rfl, by simpa using hf 4 f4 rfl⟩
theorem trod_struct2' {H : Type} {enc : TypeId × Value → H} {P : Program} {w : World} {base : Nat} {spare : Nat → Bool} {held : Bool} {t : TypeId} {f0 f1 : Field} {fuel : Nat} {cs : List Value} {x : DataW H × List MemPlace} (ht : P.underlying t = some (.struct #[f0, f1])) (h : DataW.trod enc P w base spare held fuel t cs = some x) :
    ∃ y0 y1 n, cs.length = P.cellsOf t ∧ DataW.trod enc P w base spare held n f0.type ((cs.drop f0.offset).take (P.cellsOf f0.type)) = some y0 ∧
      DataW.trod enc P w base spare held n f1.type ((cs.drop f1.offset).take (P.cellsOf f1.type)) = some y1 := by
  obtain ⟨xs, n, _, rfl, hl, hlen, hf⟩ := DataW.trod_struct ht h
  match xs, hlen with
  | [y0, y1], _ => exact ⟨y0, y1, n, hl, by simpa using hf 0 f0 rfl, by simpa using hf 1 f1 rfl⟩

theorem openElem {H : Type} {enc : TypeId × Value → H} {W : World} {base : Nat} {spare : Nat → Bool} {held : Bool} {fuel : Nat} {cs : List Value} {x : DataW H × List MemPlace}
    (h : DataW.trod enc Try.prog W base spare held fuel 36 cs = some x) : ∃ s : Ln, cs = encL s := by
  obtain ⟨y0, y1, y2, y3, y4, m, hl, h0, h1, h2, h3, h4⟩ := trod_struct5 Try.underlying36 h
  rw [Try.cells36] at hl
  obtain ⟨c0, c1, c2, c3, c4, rfl⟩ := list5 hl
  simp only [Try.cells3, Try.cells4, Try.cells9, List.drop_zero, List.drop_succ_cons, List.take_succ_cons, List.take_zero] at h0 h1 h2 h3 h4
  obtain ⟨s0, e0, _, _⟩ := DataW.trod_int Try.underlying3 h0
  obtain ⟨s1, e1, _⟩ := DataW.trod_bool Try.underlying4 h1
  obtain ⟨s2, e2, _, _⟩ := DataW.trod_string Try.underlying9 h2
  obtain ⟨s3, e3, _, _⟩ := DataW.trod_int Try.underlying3 h3
  obtain ⟨s4, e4, _, _⟩ := DataW.trod_string Try.underlying9 h4
  simp only [List.cons.injEq, and_true] at e0 e1 e2 e3 e4
  exact ⟨(s0, s1, s2, s3, s4), by rw [e0, e1, e2, e3, e4]; rfl⟩

theorem openLines {H : Type} {enc : TypeId × Value → H} {W : World} {fuel : Nat} {v : Value} {x : DataW H × List MemPlace} (hf : DataW.trod enc Try.prog W 0 (fun _ => true) true fuel 22 [v] = some x) :
    ∃ a n c L, v = .slice a n c ∧ LinesAt W a n L ∧ (a = none → c = 0) := by
  rcases open_slice Try.underlying22 hf with ⟨hcs, _⟩ | ⟨ad, n, cap', m, nf, D, Pl, hcs, _, hl, hm, hmm, _, hel⟩
  · simp only [List.cons.injEq, and_true] at hcs
    exact ⟨none, 0, 0, [], hcs, ⟨rfl, fun h => absurd h (Nat.lt_irrefl 0)⟩, fun _ => rfl⟩
  · simp only [List.cons.injEq, and_true] at hcs
    simp only [if_true] at hmm
    subst hmm
    rw [Try.cells36] at hel
    obtain ⟨Z, hZ⟩ := choose_lt (α := Ln) (n := n) (p := fun i s => W.cell? (ad.add (i * 5)) = some (.int .i64 s.1) ∧ W.cell? ((ad.add (i * 5)).add 1) = some (.bool s.2.1) ∧ W.cell? ((ad.add (i * 5)).add 2) = some (.string s.2.2.1) ∧ W.cell? ((ad.add (i * 5)).add 3) = some (.int .i64 s.2.2.2.1) ∧ W.cell? ((ad.add (i * 5)).add 4) = some (.string s.2.2.2.2)) (fun i hi => by
      obtain ⟨cs', h1, h2⟩ := hel i (by omega)
      obtain ⟨s, rfl⟩ := openElem h2
      obtain ⟨_, _, hc⟩ := World.cells?_some h1
      refine ⟨s, ?_, ?_, ?_, ?_, ?_⟩
      · have := hc 0 (by omega); simpa [Addr.add, encL] using this
      · exact hc 1 (by omega)
      · exact hc 2 (by omega)
      · exact hc 3 (by omega)
      · exact hc 4 (by omega))
    refine ⟨some ad, n, _, (List.range n).map Z, hcs, ⟨by simp, fun h0 => ?_⟩, fun h => by cases h⟩
    have hc0 := (hZ 0 h0).1
    have hsp : ad.spot = none := by simpa [Addr.add] using World.cell?_spot hc0
    obtain ⟨b, off, spot⟩ := ad
    simp only at hsp
    subst hsp
    refine ⟨b, off, rfl, by simpa [Addr.add] using World.block_lt_of_cell? W _ hc0, fun j x hj => ?_⟩
    have hj' : j < n := by have := (List.getElem?_eq_some_iff.1 hj).1; simpa using this
    rw [List.getElem?_map, List.getElem?_range hj'] at hj
    cases hj
    have := hZ j hj'
    simpa only [Addr.add_lit] using this

instance : Inhabited Sc := ⟨⟨⟨#[]⟩, none, 0, 0, []⟩⟩

theorem openSec {H : Type} {enc : TypeId × Value → H} {W : World} {fuel : Nat} {cs : List Value} {x : DataW H × List MemPlace}
    (h : DataW.trod enc Try.prog W 0 (fun _ => true) true fuel 27 cs = some x) : ∃ s : Sc, cs = [.string s.name, .slice s.la s.ln s.lc] ∧ LinesAt W s.la s.ln s.lines ∧ (s.la = none → s.lc = 0) := by
  obtain ⟨y0, y1, m, hl, h0, h1⟩ := trod_struct2' Try.underlying27 h
  rw [Try.cells27] at hl
  obtain ⟨c0, c1, rfl⟩ := list2 hl
  simp only [Try.cells9, Try.cells22, List.drop_zero, List.drop_succ_cons, List.take_succ_cons, List.take_zero] at h0 h1
  obtain ⟨s0, e0, _, _⟩ := DataW.trod_string Try.underlying9 h0
  obtain ⟨a, n, c, L, e1, hL, hc⟩ := openLines h1
  simp only [List.cons.injEq, and_true] at e0
  exact ⟨⟨s0, a, n, c, L⟩, by rw [e0, e1], hL, hc⟩

theorem openSecs {H : Type} {enc : TypeId × Value → H} {W : World} {a : Option Addr} {n cap : Nat} {d : DataW H} {p : List MemPlace} (h : DataW.Trod enc Try.prog W 0 (fun _ => true) true 23 (.slice a n cap) d p) :
    ∃ S, SecsAt W a n S ∧ (a = none → cap = 0) ∧ ∀ x ∈ S, x.la = none → x.lc = 0 := by
  obtain ⟨fuel, hf⟩ := h
  rcases open_slice Try.underlying23 hf with ⟨hcs, _⟩ | ⟨ad, len, cap', m, nf, D, Pl, hcs, _, hl, hm, hmm, _, hel⟩
  · simp [Value.cells] at hcs
    obtain ⟨rfl, rfl, rfl⟩ := hcs
    exact ⟨[], ⟨rfl, fun h => absurd h (Nat.lt_irrefl 0), fun x hx => absurd hx List.not_mem_nil⟩, fun _ => rfl, fun x hx => absurd hx List.not_mem_nil⟩
  · simp [Value.cells] at hcs
    obtain ⟨rfl, rfl, rfl⟩ := hcs
    simp only [if_true] at hmm
    subst hmm
    rw [Try.cells27] at hel
    obtain ⟨Z, hZ⟩ := choose_lt (α := Sc) (n := n) (p := fun i s => (W.cell? (ad.add (i * 2)) = some (.string s.name) ∧ W.cell? ((ad.add (i * 2)).add 1) = some (.slice s.la s.ln s.lc)) ∧ LinesAt W s.la s.ln s.lines ∧ (s.la = none → s.lc = 0)) (fun i hi => by
      obtain ⟨cs', h1, h2⟩ := hel i (by omega)
      obtain ⟨s, rfl, hs⟩ := openSec h2
      obtain ⟨_, _, hc⟩ := World.cells?_some h1
      refine ⟨s, ⟨?_, ?_⟩, hs⟩
      · have := hc 0 (by omega); simpa [Addr.add] using this
      · exact hc 1 (by omega))
    refine ⟨(List.range n).map Z, ⟨by simp, fun h0 => ?_, fun x hx => ?_⟩, (fun h => by cases h), fun x hx => ?_⟩
    · have hc0 := (hZ 0 h0).1.1
      have hsp : ad.spot = none := by simpa [Addr.add] using World.cell?_spot hc0
      obtain ⟨b, off, spot⟩ := ad
      simp only at hsp
      subst hsp
      refine ⟨b, off, rfl, by simpa [Addr.add] using World.block_lt_of_cell? W _ hc0, fun j x hj => ?_⟩
      have hj' : j < n := by have := (List.getElem?_eq_some_iff.1 hj).1; simpa using this
      rw [List.getElem?_map, List.getElem?_range hj'] at hj
      cases hj
      have := (hZ j hj').1
      simpa only [Addr.add_lit] using this
    · obtain ⟨i, hi, rfl⟩ := List.mem_map.1 hx
      exact (hZ i (List.mem_range.1 hi)).2.1
    · obtain ⟨i, hi, rfl⟩ := List.mem_map.1 hx
      exact (hZ i (List.mem_range.1 hi)).2.2

theorem openLead {H : Type} {enc : TypeId × Value → H} {W : World} {a : Option Addr} {n cap : Nat} {d : DataW H} {p : List MemPlace} (h : DataW.Trod enc Try.prog W 0 (fun _ => true) true 22 (.slice a n cap) d p) :
    ∃ L, LinesAt W a n L ∧ (a = none → cap = 0) := by
  obtain ⟨fuel, hf⟩ := h
  obtain ⟨a', n', c', L, e, h1, h2⟩ := openLines (v := .slice a n cap) hf
  cases e
  exact ⟨L, h1, h2⟩
end Go.Proofs.Qxb6627325a
