import Derived.Test.Qxb6630808aFmtWA
import Derived.BigRegion
namespace Go.Proofs.Qxb6630808aFmt
open Go.RowKit Go.Extern.Stop Go.Stop Go.Extern

/-- Block nb is a row of n sources of the call's own; its first k are L's. -/
def PartRow (w : World) (nb n k : Nat) (L : List Src) : Prop :=
  ∃ cur : Array Value, w.heap[nb]? = some (.cells cur 30 (0, 0)) ∧ cur.size = n * 4 ∧ ∀ (j : Nat) (x : Src), j < k → L[j]? = some x → ∀ q v, (encS x)[q]? = some v → cur[j * 4 + q]? = some v

theorem PartRow.step {w : World} {nb n k : Nat} {L : List Src} {s0 s1 s2 s3 : ByteArray} (h : PartRow w nb n k L) (hk : k < n) (hs : L[k]? = some (s0, s1, s2, s3)) :
    PartRow (w.setCells nb (k * 4) (encS (s0, s1, s2, s3))) nb n (k + 1) L := by
  obtain ⟨cur, h1, h2, h3⟩ := h
  refine ⟨_, heap_setCells_same nb 30 _ _ _ _ h1, by rw [size_putAll, h2], fun j x hj hx q v hv => ?_⟩
  have hq : q < 4 := by have := (List.getElem?_eq_some_iff.1 hv).1; simpa [encS] using this
  by_cases e : j = k
  · subst e
    rw [putAll_in _ _ _ _ (by omega) (by simp [encS]; omega) (by simp [encS]; omega)]
    rw [hs] at hx; cases hx
    rw [show j * 4 + q - j * 4 = q by omega]; exact hv
  · rw [putAll_out _ _ _ _ (by omega)]
    exact h3 j x (by omega) hx q v hv

theorem PartRow.step4 {w : World} {nb n k : Nat} {L : List Src} {s0 s1 s2 s3 : ByteArray} (h : PartRow w nb n k L) (hk : k < n) (hs : L[k]? = some (s0, s1, s2, s3)) :
    PartRow ((((w.setCell ⟨nb, k * 4, none⟩ (.string s0)).setCell ⟨nb, k * 4 + 1, none⟩ (.string s1)).setCell ⟨nb, k * 4 + 2, none⟩ (.string s2)).setCell ⟨nb, k * 4 + 3, none⟩ (.string s3)).drew nb n (k + 1) L := h.step hk hs

theorem below4 {B : Nat} {w w' : World} {nb o : Nat} {v0 v1 v2 v3 : Value} (h : Below B w w') (hb : B ≤ nb) :
    Below B w ((((w'.setCell ⟨nb, o, none⟩ v0).setCell ⟨nb, o + 1, none⟩ v1).setCell ⟨nb, o + 2, none⟩ v2).setCell ⟨nb, o + 3, none⟩ v3).drew :=
  ((((h.setCell (p := ⟨nb, o, none⟩) hb _).setCell (p := ⟨nb, o + 1, none⟩) hb _).setCell (p := ⟨nb, o + 2, none⟩) hb _).setCell (p := ⟨nb, o + 3, none⟩) hb _).drew

theorem St.built {w wr : World} {n : Nat} {ver : Int} {L : List Src} {d : ByteArray} (hB : Below w.heap.size w wr) (hA : PartRow wr w.heap.size n n L) (hN : n = L.length) (hn : n ≤ 4096) (hsum : nameSum L ≤ 1048576) :
    St (wr.alloc (.cells #[.int .i64 ver, .slice (some ⟨w.heap.size, 0, none⟩) n n, .string d] 38)) wr.heap.size w.heap.size n ver L d ∧ w.heap.size ≤ wr.heap.size ∧ Below w.heap.size w (wr.alloc (.cells #[.int .i64 ver, .slice (some ⟨w.heap.size, 0, none⟩) n n, .string d] 38)) := by
  obtain ⟨cur, h1, h2, h3⟩ := hA
  have hlt : w.heap.size < wr.heap.size := (Array.getElem?_eq_some_iff.1 h1).1
  refine ⟨⟨_, heap_alloc_new wr _, hsum, hn, .inr ⟨by rw [hN], by omega, cur, (Below.heap_alloc wr _ _ hlt).trans h1, h2, by omega, fun j x hj => h3 j x (by have := (List.getElem?_eq_some_iff.1 hj).1; omega) hj⟩⟩, by omega, hB.alloc (by omega) _⟩

theorem PartRow.known {w : World} {nb n k : Nat} {L : List Src} (h : PartRow w nb n k L) (hk : k < n) :
    ∃ u0 u1 u2 u3, w.cell? ⟨nb, k * 4, none⟩ = some u0 ∧ w.cell? ⟨nb, k * 4 + 1, none⟩ = some u1 ∧ w.cell? ⟨nb, k * 4 + 2, none⟩ = some u2 ∧ w.cell? ⟨nb, k * 4 + 3, none⟩ = some u3 ∧ (∀ i, w.frozen? ⟨nb, i, none⟩ = false) ∧ nb < w.heap.size := by
  obtain ⟨cur, h1, h2, h3⟩ := h
  refine ⟨cur[k * 4], cur[k * 4 + 1], cur[k * 4 + 2], cur[k * 4 + 3], ?_, ?_, ?_, ?_, fun i => frozen_row h1 i, (Array.getElem?_eq_some_iff.1 h1).1⟩ <;> rw [cell_row h1, Array.getElem?_eq_getElem]

set_option maxHeartbeats 2000000 in
set_option maxRecDepth 100000 in
theorem build_some (ver : Int) (a : Addr) (n cap : Nat) (L : List Src) (d : ByteArray) (w : World) (HN : Hid (n = L.length)) (hn : n ≤ 4096) (hsum : nameSum L ≤ 1048576)
    (ha : 0 < n → ∃ b off, a = ⟨b, off, none⟩ ∧ b < w.heap.size ∧ LCells w b off L) :
    Calls Tryf.prog 7 #[.int .i64 ver, .slice (some a) n cap, .string d] w fun e w' => ∃ cb sb cap', e = .returned (.pointer (some ⟨cb, 0, none⟩)) ∧ St w' cb sb cap' ver L d ∧ w.heap.size ≤ cb ∧ w.heap.size ≤ sb ∧ Below w.heap.size w w' := by
  obtain ⟨i0, hinf, hz0, hz1, hz2⟩ := info_parts Tryf.info30
  obtain ⟨MC, hMC, hmk⟩ : ∃ MC : Array Value, MC.size = n * 4 ∧ ∀ w : World, (Instr.makeSlice 36 (.int .i64 (n : Int)) (.int .i64 (n : Int))).run Tryf.prog w = .ok (.slice (some ⟨w.heap.size, 0, none⟩) n n) (w.alloc (.cells MC 30)) := by
    refine ⟨madeCells (Value.agg #[.string ⟨#[]⟩, .string ⟨#[]⟩, .string ⟨#[]⟩, .string ⟨#[]⟩]).cells (n * 4), by rw [size_madeCells], fun w => ?_⟩
    have := run_make (P := Tryf.prog) w 36 30 i0 _ Tryf.underlying36 hinf hz0 .i64 .i64 (n : Int) (n : Int) (by omega) (Int.le_refl _) (by rw [hz2]; omega) (by omega)
    rw [hz1] at this
    exact this
  have H0 : Hid (PartRow (w.alloc (.cells MC 30)) w.heap.size n 0 L) := ⟨MC, heap_alloc_new w _, hMC, fun j x hj => absurd hj (Nat.not_lt_zero _)⟩
  have hnil := fun (W : World) (x : Option Addr) (p q : Nat) => run_neq_slice_nil_any (P := Tryf.prog) W 22 26 x p q 0 0 Tryf.underlying22
  clear hMC hinf hz0 hz1 hz2
  go_enter Tryf.func7, Tryf.ntmps7
  go_wp2
  go_loopw [8] (fun i wr => ∃ k : Nat, k ≤ n ∧ i = .int .i64 k ∧ Hid (Below w.heap.size w wr) ∧ Hid (PartRow wr w.heap.size n k L)) (fun i _ => n - (intOf i).toNat)
  case atStart => exact ⟨0, Nat.zero_le _, rfl, (Below.refl _ _).alloc (Nat.le_refl _) _, H0⟩
  case round =>
    obtain ⟨k, hk, rfl, HB, HA⟩ := hrel
    by_cases hlt' : k < n
    · have hltI : (k : Int) < (n : Int) := by omega
      have hk0 : (0 : Int) ≤ (k : Int) := by omega
      obtain ⟨x, hx⟩ : ∃ x, L[k]? = some x := ⟨_, List.getElem?_eq_getElem (show k < L.length by have := HN.out; omega)⟩
      obtain ⟨b, off, rfl, hbw, hcells⟩ := ha (by omega)
      obtain ⟨c0, c1, c2, c3⟩ := hcells.below hbw HB.out k x hx
      obtain ⟨s0, s1, s2, s3⟩ := x
      obtain ⟨u0, u1, u2, u3, v0, v1, v2, v3, vf, vs⟩ := HA.out.known hlt'
      have HX : Hid (L[k]? = some (s0, s1, s2, s3)) := hx
      have hbne : b ≠ w.heap.size := by omega
      simp only at c0 c1 c2 c3
      clear hcells hx H0 ha
      go_wp2
      go_region
      all_goals
        go_wp2
        go_roundw
        case rel => exact ⟨k + 1, by omega, by go_num, below4 HB.out (Nat.le_refl _), HA.out.step4 hlt' HX.out⟩
        case measure => simp [intOf]; omega
    · have hkn : k = n := by omega
      subst hkn
      go_wp2
      go_ret
      have hb := St.built (ver := ver) (d := d) HB.out HA.out HN.out hn hsum
      exact ⟨_, _, _, rfl, hb.1, hb.2.1, Nat.le_refl _, hb.2.2⟩

set_option maxHeartbeats 2000000 in
set_option maxRecDepth 100000 in
theorem build_nil (ver : Int) (d : ByteArray) (w : World) :
    Calls Tryf.prog 7 #[.int .i64 ver, .slice none 0 0, .string d] w fun e w' => ∃ cb sb cap', e = .returned (.pointer (some ⟨cb, 0, none⟩)) ∧ St w' cb sb cap' ver [] d ∧ w.heap.size ≤ cb ∧ w.heap.size ≤ sb ∧ Below w.heap.size w w' := by
  have hnil := fun (W : World) (x : Option Addr) (p q : Nat) => run_neq_slice_nil_any (P := Tryf.prog) W 22 26 x p q 0 0 Tryf.underlying22
  go_enter Tryf.func7, Tryf.ntmps7
  go_wp2
  go_ret
  exact ⟨w.heap.size, w.heap.size, 0, rfl, ⟨_, heap_alloc_new w _, by simp [nameSum], by omega, .inl ⟨rfl, rfl, rfl⟩⟩, Nat.le_refl _, Nat.le_refl _, (Below.refl _ _).alloc (Nat.le_refl _) _⟩
end Go.Proofs.Qxb6630808aFmt
