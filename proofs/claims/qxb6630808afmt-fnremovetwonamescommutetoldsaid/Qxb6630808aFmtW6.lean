import Derived.Test.Qxb6630808aFmtW5
import Derived.Test.Qxb6630808aFmtShelf
import Derived.Laws.Concat
namespace Go.Proofs.Qxb6630808aFmt
open Go.RowKit

theorem Tryf.info9 : (Tryf.prog.info? 9).map (fun i => (i.zero, i.size, i.bytes)) = some (some (.string ⟨#[]⟩), 1, 16) := by kernel_rfl

/-- Block 'nb' is a row of n strings of the call's own; the first k are the names of L. -/
def NamesAt (w : World) (nb n k : Nat) (L : List Src) : Prop :=
  ∃ cur : Array Value, w.heap[nb]? = some (.cells cur 9 (0, 0)) ∧ cur.size = n ∧ ∀ (j : Nat) (x : Src), j < k → L[j]? = some x → cur[j]? = some (.string x.1)

theorem NamesAt.step {w : World} {nb n k : Nat} {L : List Src} {s : ByteArray} {o : Obj} (h : NamesAt w nb n k L) (hk : k < n) (hs : ∀ x, L[k]? = some x → x.1 = s) :
    NamesAt ((w.setCell ⟨nb, k, none⟩ (.string s)).alloc o) nb n (k + 1) L := by
  obtain ⟨cur, h1, h2, h3⟩ := h
  have hlt : nb < w.heap.size := (Array.getElem?_eq_some_iff.1 h1).1
  refine ⟨cur.setIfInBounds k (.string s), ?_, by simp [h2], fun j x hj hx => ?_⟩
  · rw [Below.heap_alloc _ _ _ (by simpa using hlt)]
    exact heap_setCell_same w nb k cur 9 _ h1
  · by_cases e : j = k
    · subst e
      rw [Array.getElem?_setIfInBounds_self_of_lt (by omega), hs x hx]
    · rw [Array.getElem?_setIfInBounds_ne (by omega)]
      exact h3 j x (by omega) hx

set_option maxHeartbeats 1000000 in
set_option maxRecDepth 100000 in
theorem names_none (cb : Nat) (a : Option Addr) (c : Nat) (w : World) (h1 : w.cell? ⟨cb, 1, none⟩ = some (.slice a 0 c)) :
    Calls Tryf.prog 18 #[.pointer (some ⟨cb, 0, none⟩)] w fun e w' => ∃ s : ByteArray, e = .returned (.string s) ∧ Below w.heap.size w w' := by
  go_enter Tryf.func18, Tryf.ntmps18
  go_wp2
  go_ret
  exact ⟨_, rfl, Below.refl _ _⟩

theorem add_ok {J : ByteArray} (h : J.size ≤ 16777216) : (⟨#[116, 104, 101, 32, 115, 111, 117, 114, 99, 101, 115, 32, 97, 114, 101, 32]⟩ : ByteArray).size + J.size ≤ 9223372036854775807 := by
  show 16 + J.size ≤ _
  omega

theorem join_at {w wr : World} {n : Nat} {L : List Src} {J : ByteArray} (hA : NamesAt wr w.heap.size n n L) (hN : n = L.length)
    (hJ : J = ⟨(Lib.join ((L.map (·.1)).map (·.data.toList)) [44, 32]).toArray⟩) (hJs : J.size ≤ 16777216) (hn : n ≤ 4096) :
    Calls Tryf.prog 21 #[.slice (some ⟨w.heap.size, 0, none⟩) n n, .string ⟨#[44, 32]⟩] wr fun e w' => e = .returned (.string J) ∧ Below wr.heap.size wr w' := by
  obtain ⟨cur, q1, q2, q3⟩ := hA
  have h := Tryf.strings_Join w.heap.size 0 n (L.map (·.1)) ⟨#[44, 32]⟩ wr (fun j x hx => by
    rw [List.getElem?_map] at hx
    cases hy : L[j]? with
    | none => rw [hy] at hx; cases hx
    | some y =>
      rw [hy] at hx
      cases hx
      have hj : j < L.length := (List.getElem?_eq_some_iff.1 hy).1
      rw [Nat.zero_add, cell_row q1]
      exact q3 j y (by omega) hy) (Array.getElem?_eq_some_iff.1 q1).1 (by simp; omega) (by simp; omega) (by
      have : (Lib.join ((L.map (·.1)).map (·.data.toList)) [44, 32]).length = J.size := by rw [hJ]; simp [ByteArray.size]
      show (Lib.join ((L.map (·.1)).map (·.data.toList)) [44, 32]).length ≤ _
      omega)
  rw [List.length_map, ← hN] at h
  rw [hJ]
  exact h

set_option maxHeartbeats 1000000 in
set_option maxRecDepth 100000 in
theorem names_some (cb sb cap n : Nat) (L : List Src) (w : World) (hr : RowL w 30 sb cap L) (HN : Hid (n = L.length)) (hn0 : 0 < n) (hn : n ≤ 4096) (hcb : cb < w.heap.size) (h1 : w.cell? ⟨cb, 1, none⟩ = some (.slice (some ⟨sb, 0, none⟩) n cap))
    (hsum : (Lib.join ((L.map (·.1)).map (·.data.toList)) [44, 32]).length ≤ 16777216) :
    Calls Tryf.prog 18 #[.pointer (some ⟨cb, 0, none⟩)] w fun e w' => ∃ s : ByteArray, e = .returned (.string s) ∧ Below w.heap.size w w' := by
  have hcells := hr.cells
  have hlt := hr.lt
  obtain ⟨i0, hinf, hz0, hz1, hz2⟩ := info_parts Tryf.info9
  obtain ⟨MC, hMC, hmk⟩ : ∃ MC : Array Value, MC.size = n ∧ ∀ w : World, (Instr.makeSlice 52 (.int .i64 (n : Int)) (.int .i64 (n : Int))).run Tryf.prog w = .ok (.slice (some ⟨w.heap.size, 0, none⟩) n n) (w.alloc (.cells MC 9)) := by
    refine ⟨madeCells (Value.string ⟨#[]⟩).cells (n * 1), by rw [size_madeCells]; omega, fun w => ?_⟩
    have := run_make (P := Tryf.prog) w 52 9 i0 _ Tryf.underlying52 hinf hz0 .i64 .i64 (n : Int) (n : Int) (by omega) (Int.le_refl _) (by rw [hz2]; omega) (by omega)
    rw [hz1] at this
    exact this
  have H0 : Hid (NamesAt (w.alloc (.cells MC 9)) w.heap.size n 0 L) := ⟨MC, heap_alloc_new w _, hMC, fun j x hj => absurd hj (Nat.not_lt_zero _)⟩
  have hne : ((n : Int) == 0) = false := by rw [beq_eq_false_iff_ne]; omega
  obtain ⟨J, hJ⟩ : ∃ J : ByteArray, J = ⟨(Lib.join ((L.map (·.1)).map (·.data.toList)) [44, 32]).toArray⟩ := ⟨_, rfl⟩
  have HJ : Hid (J = ⟨(Lib.join ((L.map (·.1)).map (·.data.toList)) [44, 32]).toArray⟩) := hJ
  have hJs : J.size ≤ 16777216 := by rw [hJ]; simpa [ByteArray.size] using hsum
  clear hJ hsum hMC hr hz0 hz1 hz2 hinf
  go_enter Tryf.func18, Tryf.ntmps18
  go_wp2
  go_loopw [4, 5, 23] (fun _ _ i wr => ∃ k : Nat, k ≤ n ∧ i = .int .i64 k ∧ Hid (Below w.heap.size w wr) ∧ Hid (NamesAt wr w.heap.size n k L)) (fun _ _ i _ => n - (intOf i).toNat)
  case atStart => exact ⟨0, Nat.zero_le _, rfl, (Below.refl _ _).alloc (Nat.le_refl _) _, H0⟩
  case round =>
    obtain ⟨k, hk, rfl, HB, HA⟩ := hrel
    by_cases hlt' : k < n
    · have hltI : (k : Int) < (n : Int) := by omega
      obtain ⟨x, hx⟩ : ∃ x, L[k]? = some x := ⟨_, List.getElem?_eq_getElem (show k < L.length by have := HN.out; omega)⟩
      obtain ⟨c0, c1, c2, c3⟩ := hcells.below hlt HB.out k x hx
      obtain ⟨s0, s1, s2, s3⟩ := x
      obtain ⟨u, hu, hfu, hBl⟩ : ∃ u, wr.cell? ⟨w.heap.size, k, none⟩ = some u ∧ wr.frozen? ⟨w.heap.size, k, none⟩ = false ∧ w.heap.size < wr.heap.size := by
        obtain ⟨cur, q1, q2, q3⟩ := HA.out
        exact ⟨cur[k], by rw [cell_row q1, Array.getElem?_eq_getElem], frozen_row q1 k, (Array.getElem?_eq_some_iff.1 q1).1⟩
      have HX : Hid (L[k]? = some (s0, s1, s2, s3)) := hx
      simp only [Nat.zero_add] at c0 c1 c2 c3
      clear hcells hx H0 h1
      go_wp2
      go_roundw
      case rel => exact ⟨k + 1, by omega, by go_num, (HB.out.setCell (p := ⟨w.heap.size, k, none⟩) (Nat.le_refl _) _).alloc (by simp; omega) _, HA.out.step hlt' (fun x hx => by have := HX.out; rw [hx] at this; cases this; rfl)⟩
      case measure => simp [intOf]; omega
    · have hkn : k = n := by omega
      subst hkn
      have hj := join_at HA.out HN.out HJ.out hJs (by omega)
      have hadd := fun (X : World) => run_string_add_sum (P := Tryf.prog) X ⟨#[116, 104, 101, 32, 115, 111, 117, 114, 99, 101, 115, 32, 97, 114, 101, 32]⟩ J (add_ok hJs)
      clear hcells H0 h1
      go_wp2_with (go_at_call 21; refine hj.mono ?_; rintro e w' ⟨rfl, hb'⟩)
      go_ret
      exact ⟨_, rfl, HB.out.trans (hb'.mono HB.out.size)⟩
end Go.Proofs.Qxb6630808aFmt
