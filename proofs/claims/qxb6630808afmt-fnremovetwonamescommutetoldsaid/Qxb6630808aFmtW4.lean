import Derived.Test.Qxb6630808aFmtW3
import Derived.Deep.LoopGhost
namespace Go.Proofs.Qxb6630808aFmt
open Go.RowKit

/-- The cells of a list of sources. -/
def LCells (w : World) (b off : Nat) (L : List Src) : Prop :=
  ∀ (j : Nat) (x : Src), L[j]? = some x → w.cell? ⟨b, off + j * 4, none⟩ = some (.string x.1) ∧ w.cell? ⟨b, off + j * 4 + 1, none⟩ = some (.string x.2.1) ∧
    w.cell? ⟨b, off + j * 4 + 2, none⟩ = some (.string x.2.2.1) ∧ w.cell? ⟨b, off + j * 4 + 3, none⟩ = some (.string x.2.2.2)

theorem LCells.below {w w' : World} {b off : Nat} {L : List Src} (h : LCells w b off L) (hb : b < w.heap.size) (hB : Below w.heap.size w w') : LCells w' b off L := by
  intro j x hj
  obtain ⟨c0, c1, c2, c3⟩ := h j x hj
  exact ⟨(hB.cell (p := ⟨b, _, none⟩) hb).trans c0, (hB.cell (p := ⟨b, _, none⟩) hb).trans c1, (hB.cell (p := ⟨b, _, none⟩) hb).trans c2, (hB.cell (p := ⟨b, _, none⟩) hb).trans c3⟩

def isN (nm : ByteArray) (x : Src) : Bool := x.1.toList == nm.toList

set_option maxRecDepth 100000 in
set_option maxHeartbeats 1000000 in
theorem idx_none (a : Option Addr) (c : Nat) (f : Value) (w : World) :
    Calls Tryf.prog 15 #[.slice a 0 c, f] w fun e w' => e = .returned (.int .i64 (-1)) ∧ w' = w := by
  go_enter Tryf.func15, Tryf.ntmps15
  go_wp2
  refine wp_loop_rounds 1 ?_; rw [rounds_succ]
  go_wp2
  go_ret
  exact ⟨rfl, rfl⟩

set_option maxRecDepth 100000 in
set_option maxHeartbeats 1000000 in
theorem idx_miss (b off c nb : Nat) (L : List Src) (nm : ByteArray) (w : World) (hL : L.length ≤ 4096) (hb : b < w.heap.size) (hnb : nb < w.heap.size)
    (hc : LCells w b off L) (hcn : w.cell? ⟨nb, 0, none⟩ = some (.string nm)) (hmiss : ∀ x ∈ L, isN nm x = false) :
    Calls Tryf.prog 15 #[.slice (some ⟨b, off, none⟩) L.length c, .func (.func 16) #[] #[.pointer (some ⟨nb, 0, none⟩)]] w fun e w' => e = .returned (.int .i64 (-1)) ∧ Below w.heap.size w w' := by
  obtain ⟨n, hn⟩ : ∃ n, n = L.length := ⟨_, rfl⟩
  rw [← hn]
  have HN : Hid (n = L.length) := hn
  have hn' : n ≤ 4096 := by omega
  clear hn hL
  go_enter Tryf.func15, Tryf.ntmps15
  go_wp2
  go_loopw [5, 8] (fun _ i wr => ∃ k : Nat, k ≤ n ∧ i = .int .i64 k ∧ Hid (Below w.heap.size w wr)) (fun _ i _ => n - (intOf i).toNat)
  case atStart => exact ⟨0, Nat.zero_le _, rfl, Below.refl _ _⟩
  case round =>
    obtain ⟨k, hk, rfl, HB⟩ := hrel
    by_cases hlt : k < n
    · have hlt' : (k : Int) < (n : Int) := by omega
      obtain ⟨x, hx⟩ : ∃ x, L[k]? = some x := ⟨_, List.getElem?_eq_getElem (show k < L.length by have := HN.out; omega)⟩
      obtain ⟨c0, c1, c2, c3⟩ := hc.below hb HB.out k x hx
      have hf := hmiss x (List.mem_of_getElem? hx)
      have hcn' : wr.cell? ⟨nb, 0, none⟩ = some (.string nm) := (HB.out.cell (p := ⟨nb, 0, none⟩) hnb).trans hcn
      have hnb' : nb < wr.heap.size := Nat.lt_of_lt_of_le hnb HB.out.size
      obtain ⟨s0, s1, s2, s3⟩ := x
      have hcall := clo_any s0 s1 s2 s3 nm nb wr hnb' hcn'
      rw [show (s0.toList == nm.toList) = false from hf] at hcall
      clear hc hcn hmiss hx hf
      simp only at c0 c1 c2 c3
      go_wp2_with (go_at_call 16; refine hcall.mono ?_; rintro e w' ⟨rfl, hb'⟩)
      go_roundw
      case rel => exact ⟨k + 1, by omega, by go_num, HB.out.trans (hb'.mono HB.out.size)⟩
      case measure => simp [intOf]; omega
    · go_wp2
      go_ret
      exact ⟨rfl, HB.out⟩

set_option maxRecDepth 100000 in
set_option maxHeartbeats 1000000 in
theorem idx_hit (b off c nb i : Nat) (L : List Src) (nm : ByteArray) (y : Src) (w : World) (hL : L.length ≤ 4096) (hb : b < w.heap.size) (hnb : nb < w.heap.size)
    (hc : LCells w b off L) (hcn : w.cell? ⟨nb, 0, none⟩ = some (.string nm)) (hi : L[i]? = some y) (hy : isN nm y = true) (hmiss : ∀ j x, j < i → L[j]? = some x → isN nm x = false) :
    Calls Tryf.prog 15 #[.slice (some ⟨b, off, none⟩) L.length c, .func (.func 16) #[] #[.pointer (some ⟨nb, 0, none⟩)]] w fun e w' => e = .returned (.int .i64 i) ∧ Below w.heap.size w w' := by
  obtain ⟨n, hn⟩ : ∃ n, n = L.length := ⟨_, rfl⟩
  rw [← hn]
  have HN : Hid (n = L.length) := hn
  have hn' : n ≤ 4096 := by omega
  have hin : i < n := by rw [hn]; exact (List.getElem?_eq_some_iff.1 hi).1
  clear hn hL
  go_enter Tryf.func15, Tryf.ntmps15
  go_wp2
  go_loopw [5, 8] (fun _ q wr => ∃ k : Nat, k ≤ i ∧ q = .int .i64 k ∧ Hid (Below w.heap.size w wr)) (fun _ q _ => n - (intOf q).toNat)
  case atStart => exact ⟨0, Nat.zero_le _, rfl, Below.refl _ _⟩
  case round =>
    obtain ⟨k, hk, rfl, HB⟩ := hrel
    have hlt' : (k : Int) < (n : Int) := by omega
    have hlt : k < n := by omega
    obtain ⟨x, hx⟩ : ∃ x, L[k]? = some x := ⟨_, List.getElem?_eq_getElem (show k < L.length by have := HN.out; omega)⟩
    obtain ⟨c0, c1, c2, c3⟩ := hc.below hb HB.out k x hx
    have hcn' : wr.cell? ⟨nb, 0, none⟩ = some (.string nm) := (HB.out.cell (p := ⟨nb, 0, none⟩) hnb).trans hcn
    have hnb' : nb < wr.heap.size := Nat.lt_of_lt_of_le hnb HB.out.size
    by_cases hki : k = i
    · subst hki
      have hf : isN nm x = true := by rw [hi] at hx; cases hx; exact hy
      obtain ⟨s0, s1, s2, s3⟩ := x
      have hcall := clo_any s0 s1 s2 s3 nm nb wr hnb' hcn'
      rw [show (s0.toList == nm.toList) = true from hf] at hcall
      clear hc hcn hmiss hx hf hi hy
      simp only at c0 c1 c2 c3
      go_wp2_with (go_at_call 16; refine hcall.mono ?_; rintro e w' ⟨rfl, hb'⟩)
      go_ret
      exact ⟨rfl, HB.out.trans (hb'.mono HB.out.size)⟩
    · have hf := hmiss k x (by omega) hx
      obtain ⟨s0, s1, s2, s3⟩ := x
      have hcall := clo_any s0 s1 s2 s3 nm nb wr hnb' hcn'
      rw [show (s0.toList == nm.toList) = false from hf] at hcall
      clear hc hcn hmiss hx hf hi hy
      simp only at c0 c1 c2 c3
      go_wp2_with (go_at_call 16; refine hcall.mono ?_; rintro e w' ⟨rfl, hb'⟩)
      go_roundw
      case rel => exact ⟨k + 1, by omega, by go_num, HB.out.trans (hb'.mono HB.out.size)⟩
      case measure => simp [intOf]; omega
end Go.Proofs.Qxb6630808aFmt
