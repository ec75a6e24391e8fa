import Derived.Test.Qxb6630841aW8
import Derived.Deep.Slices
import Derived.Lib.SmallJoins
import Derived.ChangeOld
namespace Go.Proofs.Qxb6630841a
open Go.ChangeShapes Go.WideShapes Go.ChangeAt Go.RowKit Go.Joins Go.Deep

theorem Try.cells31 : Try.prog.cellsOf 31 = 5 := by kernel_rfl
theorem Try.cells2 : Try.prog.cellsOf 2 = 1 := by kernel_rfl
theorem Try.cells4 : Try.prog.cellsOf 4 = 1 := by kernel_rfl
theorem Try.cells5 : Try.prog.cellsOf 5 = 1 := by kernel_rfl

theorem list5 {α : Type} {cs : List α} (h : cs.length = 5) : ∃ c0 c1 c2 c3 c4, cs = [c0, c1, c2, c3, c4] := by
  match cs, h with
  | [c0, c1, c2, c3, c4], _ => exact ⟨c0, c1, c2, c3, c4, rfl⟩

theorem trod_struct5 {H : Type} {enc : TypeId × Value → H} {P : Program} {w : World} {base : Nat} {spare : Nat → Bool} {held : Bool} {t : TypeId} {f0 f1 f2 f3 f4 : Field} {fuel : Nat} {cs : List Value} {x : DataW H × List MemPlace} (ht : P.underlying t = some (.struct #[f0, f1, f2, f3, f4])) (h : DataW.trod enc P w base spare held fuel t cs = some x) :
    ∃ y0 y1 y2 y3 y4 n, cs.length = P.cellsOf t ∧ DataW.trod enc P w base spare held n f0.type ((cs.drop f0.offset).take (P.cellsOf f0.type)) = some y0 ∧
      DataW.trod enc P w base spare held n f1.type ((cs.drop f1.offset).take (P.cellsOf f1.type)) = some y1 ∧ DataW.trod enc P w base spare held n f2.type ((cs.drop f2.offset).take (P.cellsOf f2.type)) = some y2 ∧
      DataW.trod enc P w base spare held n f3.type ((cs.drop f3.offset).take (P.cellsOf f3.type)) = some y3 ∧ DataW.trod enc P w base spare held n f4.type ((cs.drop f4.offset).take (P.cellsOf f4.type)) = some y4 := by
  obtain ⟨xs, n, _, rfl, hl, hlen, hf⟩ := DataW.trod_struct ht h
  match xs, hlen with
  | [y0, y1, y2, y3, y4], _ => exact ⟨y0, y1, y2, y3, y4, n, hl, by simpa using hf 0 f0 rfl, by simpa using hf 1 f1 rfl, by simpa using hf 2 f2 rfl, by simpa using hf 3 f3 rfl, by simpa using hf 4 f4 rfl⟩

theorem wf_i64 {n : Int} (h : (Lit.int .i64 n).wf = true) : -9223372036854775808 ≤ n ∧ n ≤ 9223372036854775807 := by
  simp [Lit.wf, IntKind.min, IntKind.max, IntKind.signed, IntKind.bits] at h
  omega
theorem wf_u8 {n : Int} (h : (Lit.int .u8 n).wf = true) : 0 ≤ n ∧ n ≤ 255 := by
  simp [Lit.wf, IntKind.min, IntKind.max, IntKind.signed, IntKind.bits] at h
  omega

theorem openElem {H : Type} {enc : TypeId × Value → H} {W : World} {base : Nat} {spare : Nat → Bool} {held : Bool} {fuel : Nat} {cs : List Value} {x : DataW H × List MemPlace}
    (h : DataW.trod enc Try.prog W base spare held fuel 31 cs = some x) :
    ∃ s : Rw, cs = [.int .i64 s.1, .int .i64 s.2.1, .int .i64 s.2.2.1, .bool s.2.2.2.1, .int .u8 (s.2.2.2.2 : Int)] ∧ (-9223372036854775808 ≤ s.1 ∧ s.1 ≤ 9223372036854775807) ∧ (-9223372036854775808 ≤ s.2.1 ∧ s.2.1 ≤ 9223372036854775807) ∧ (-9223372036854775808 ≤ s.2.2.1 ∧ s.2.2.1 ≤ 9223372036854775807) ∧ s.2.2.2.2 ≤ 255 := by
  obtain ⟨y0, y1, y2, y3, y4, m, hl, h0, h1, h2, h3, h4⟩ := trod_struct5 Try.underlying31 h
  rw [Try.cells31] at hl
  obtain ⟨c0, c1, c2, c3, c4, rfl⟩ := list5 hl
  simp only [Try.cells2, Try.cells4, Try.cells5, List.drop_zero, List.drop_succ_cons, List.take_succ_cons, List.take_zero] at h0 h1 h2 h3 h4
  obtain ⟨s0, e0, _, z0⟩ := DataW.trod_int Try.underlying2 h0
  obtain ⟨s1, e1, _, z1⟩ := DataW.trod_int Try.underlying2 h1
  obtain ⟨s2, e2, _, z2⟩ := DataW.trod_int Try.underlying2 h2
  obtain ⟨s3, e3, _⟩ := DataW.trod_bool Try.underlying4 h3
  obtain ⟨s4, e4, _, z4⟩ := DataW.trod_int Try.underlying5 h4
  simp only [List.cons.injEq, and_true] at e0 e1 e2 e3 e4
  have b4 := wf_u8 z4
  refine ⟨(s0, s1, s2, s3, s4.toNat), ?_, wf_i64 z0, wf_i64 z1, wf_i64 z2, by show s4.toNat ≤ 255; omega⟩
  rw [e0, e1, e2, e3, e4]
  show _ = [Value.int .i64 s0, .int .i64 s1, .int .i64 s2, .bool s3, .int .u8 ((s4.toNat : Nat) : Int)]
  rw [Int.toNat_of_nonneg b4.1]

theorem openR {H : Type} {enc : TypeId × Value → H} {W : World} {a : Option Addr} {n cap : Nat} {d : DataW H} {p : List MemPlace} (h : DataW.Trod enc Try.prog W 0 (fun _ => true) true 22 (.slice a n cap) d p) :
    ∃ L, ArgR W a n cap L ∧ n ≤ maxLen := by
  obtain ⟨fuel, hf⟩ := h
  rcases open_slice Try.underlying22 hf with ⟨hcs, _⟩ | ⟨ad, len, cap', m, nf, D, Pl, hcs, _, hl, hm, hmm, _, hel⟩
  · simp [Value.cells] at hcs
    obtain ⟨rfl, rfl, rfl⟩ := hcs
    exact ⟨[], ⟨rfl, (fun x (hx : x ∈ []) => nomatch hx), .inl ⟨rfl, rfl, rfl⟩⟩, Nat.zero_le _⟩
  · simp [Value.cells] at hcs
    obtain ⟨rfl, rfl, rfl⟩ := hcs
    simp only [if_true] at hmm
    subst hmm
    rw [Try.cells31] at hel
    obtain ⟨Z, hZ⟩ := choose_lt (α := Rw) (n := n) (p := fun i s => (W.cell? (ad.add (i * 5)) = some (.int .i64 s.1) ∧ W.cell? ((ad.add (i * 5)).add 1) = some (.int .i64 s.2.1) ∧ W.cell? ((ad.add (i * 5)).add 2) = some (.int .i64 s.2.2.1) ∧ W.cell? ((ad.add (i * 5)).add 3) = some (.bool s.2.2.2.1) ∧ W.cell? ((ad.add (i * 5)).add 4) = some (.int .u8 (s.2.2.2.2 : Int))) ∧
        ((-9223372036854775808 ≤ s.1 ∧ s.1 ≤ 9223372036854775807) ∧ (-9223372036854775808 ≤ s.2.1 ∧ s.2.1 ≤ 9223372036854775807) ∧ (-9223372036854775808 ≤ s.2.2.1 ∧ s.2.2.1 ≤ 9223372036854775807) ∧ s.2.2.2.2 ≤ 255)) (fun i hi => by
      obtain ⟨cs', h1, h2⟩ := hel i (by omega)
      obtain ⟨s, rfl, hs⟩ := openElem h2
      obtain ⟨_, _, hc⟩ := World.cells?_some h1
      refine ⟨s, ⟨?_, ?_, ?_, ?_, ?_⟩, hs⟩
      · have := hc 0 (by omega); simpa [Addr.add] using this
      · exact hc 1 (by omega)
      · exact hc 2 (by omega)
      · exact hc 3 (by omega)
      · exact hc 4 (by omega))
    refine ⟨(List.range n).map Z, ⟨by simp, ?_, .inr ⟨ad, rfl, fun h0 => ?_⟩⟩, by omega⟩
    · intro x hx
      obtain ⟨i, hi, rfl⟩ := List.mem_map.1 hx
      exact (hZ i (List.mem_range.1 hi)).2
    · have hc0 := (hZ 0 h0).1.1
      have hsp : ad.spot = none := by simpa [Addr.add] using World.cell?_spot hc0
      obtain ⟨b, off, spot⟩ := ad
      simp only at hsp
      subst hsp
      refine ⟨b, off, rfl, by simpa [Addr.add] using World.block_lt_of_cell? W _ hc0, fun j x hj => ?_⟩
      have hj' : j < n := by have := (List.getElem?_eq_some_iff.1 hj).1; simpa using this
      rw [List.getElem?_map, List.getElem?_range hj'] at hj
      cases hj
      have := (hZ j hj').1
      simpa only [Addr.add_lit] using this
end Go.Proofs.Qxb6630841a
