import Derived.Test.Qxb6627325aRows
import Derived.WalkKit
import Derived.WalkSpells
import Derived.Deep.QuietTactic
import Derived.BigQuiet
import Derived.BigRegion
import Derived.Outline
import Derived.Deep.RegionWith
import Derived.Laws.Rows
import Derived.Deep.MidRow
namespace Go.Proofs.Qxb6627325a
open Go.RowKit

theorem cell_row {w : World} {b t : Nat} {cur : Array Value} (h : w.heap[b]? = some (.cells cur t (0, 0))) (k : Nat) : w.cell? ⟨b, k, none⟩ = cur[k]? := by
  simp [World.cell?, h]
theorem frozen_row {w : World} {b t : Nat} {cur : Array Value} (h : w.heap[b]? = some (.cells cur t (0, 0))) (k : Nat) : w.frozen? ⟨b, k, none⟩ = false := by
  simp [World.frozen?, h]

def putAll : Array Value → Nat → List Value → Array Value
  | cur, _, [] => cur
  | cur, o, v :: r => putAll (cur.setIfInBounds o v) (o + 1) r

theorem size_putAll : ∀ (vs : List Value) (cur : Array Value) (o : Nat), (putAll cur o vs).size = cur.size
  | [], _, _ => rfl
  | v :: r, cur, o => by rw [putAll, size_putAll r]; simp

theorem putAll_out : ∀ (vs : List Value) (cur : Array Value) (o k : Nat), (k < o ∨ o + vs.length ≤ k) → (putAll cur o vs)[k]? = cur[k]?
  | [], _, _, _, _ => rfl
  | v :: r, cur, o, k, h => by
    rw [putAll, putAll_out r _ _ _ (by simp at h; omega)]
    rw [Array.getElem?_setIfInBounds_ne (by simp at h; omega)]

theorem putAll_in : ∀ (vs : List Value) (cur : Array Value) (o k : Nat), o ≤ k → k < o + vs.length → o + vs.length ≤ cur.size → (putAll cur o vs)[k]? = vs[k - o]?
  | [], _, _, _, h, h', _ => by simp at h'; omega
  | v :: r, cur, o, k, h, h', h'' => by
    rw [putAll]
    by_cases e : k = o
    · subst e
      rw [putAll_out r _ _ _ (by omega)]
      simp at h''
      simp only [Nat.sub_self, List.getElem?_cons_zero]
      rw [Array.getElem?_setIfInBounds_self_of_lt (by omega)]
    · rw [putAll_in r _ _ _ (by omega) (by simp at h'; omega) (by simp at h'' ⊢; omega)]
      rw [show k - o = (k - (o + 1)) + 1 by omega, List.getElem?_cons_succ]

theorem heap_setCells_same (g t : Nat) : ∀ (vs : List Value) (o : Nat) (w : World) (cur : Array Value), w.heap[g]? = some (.cells cur t (0, 0)) → (w.setCells g o vs).heap[g]? = some (.cells (putAll cur o vs) t (0, 0))
  | [], _, _, _, h => h
  | v :: r, o, w, cur, h => by
    rw [World.setCells, putAll]
    exact heap_setCells_same g t r (o + 1) _ _ (heap_setCell_same w g o cur t v h)

theorem heap_setCells_ne (g k : Nat) (hk : k ≠ g) : ∀ (vs : List Value) (o : Nat) (w : World), (w.setCells g o vs).heap[k]? = w.heap[k]?
  | [], _, _ => rfl
  | v :: r, o, w => by
    rw [World.setCells, heap_setCells_ne g k hk r]
    exact heap_setCell_other w ⟨g, o, none⟩ k v hk

theorem there_row {w : World} {b t : Nat} {cur : Array Value} (h : w.heap[b]? = some (.cells cur t (0, 0))) (o n : Nat) (hn : o + n ≤ cur.size) : w.there b o n := by
  intro j hj
  rw [cell_row h, frozen_row h, Array.getElem?_eq_getElem (by omega)]
  exact ⟨rfl, rfl⟩

/-- A line: kind, obsolete, name, at, text. -/
abbrev Ln := Int × Bool × ByteArray × Int × ByteArray
def encL (x : Ln) : List Value := [.int .i64 x.1, .bool x.2.1, .string x.2.2.1, .int .i64 x.2.2.2.1, .string x.2.2.2.2]
def LCells (w : World) (b off : Nat) (L : List Ln) : Prop := ∀ (j : Nat) (x : Ln), L[j]? = some x →
  w.cell? ⟨b, off + j * 5, none⟩ = some (.int .i64 x.1) ∧ w.cell? ⟨b, off + j * 5 + 1, none⟩ = some (.bool x.2.1) ∧ w.cell? ⟨b, off + j * 5 + 2, none⟩ = some (.string x.2.2.1) ∧
  w.cell? ⟨b, off + j * 5 + 3, none⟩ = some (.int .i64 x.2.2.2.1) ∧ w.cell? ⟨b, off + j * 5 + 4, none⟩ = some (.string x.2.2.2.2)
/-- A slice of lines reads as L. -/
structure LinesAt (w : World) (a : Option Addr) (n : Nat) (L : List Ln) : Prop where
  len : n = L.length
  at' : 0 < n → ∃ b off, a = some ⟨b, off, none⟩ ∧ b < w.heap.size ∧ LCells w b off L

theorem LCells.below {w w' : World} {b off : Nat} {L : List Ln} (h : LCells w b off L) (hb : b < w.heap.size) (hB : Below w.heap.size w w') : LCells w' b off L := by
  intro j x hj
  obtain ⟨h0, h1, h2, h3, h4⟩ := h j x hj
  exact ⟨(hB.cell (p := ⟨b, _, none⟩) hb).trans h0, (hB.cell (p := ⟨b, _, none⟩) hb).trans h1, (hB.cell (p := ⟨b, _, none⟩) hb).trans h2, (hB.cell (p := ⟨b, _, none⟩) hb).trans h3, (hB.cell (p := ⟨b, _, none⟩) hb).trans h4⟩
theorem LinesAt.below {w w' : World} {a : Option Addr} {n : Nat} {L : List Ln} (h : LinesAt w a n L) (hB : Below w.heap.size w w') : LinesAt w' a n L :=
  ⟨h.len, fun h0 => by
    obtain ⟨b, off, e, hb, hc⟩ := h.at' h0
    exact ⟨b, off, e, Nat.lt_of_lt_of_le hb hB.size, hc.below hb hB⟩⟩

def runs (k : Int) : Bool := k == 0 || k == 1

set_option maxRecDepth 100000 in
theorem runs9 (k : Int) (w : World) : Calls Try.prog 9 #[.int .i64 k] w fun e w' => e = .returned (.bool (runs k)) ∧ w' = w := by
  cases h0 : (k == 0) <;> cases h1 : (k == 1)
  all_goals (
    go_enter Try.func9, Try.ntmps9
    go_wp2
    go_ret
    exact ⟨by simp only [runs, h0, h1]; rfl, rfl⟩)

set_option maxRecDepth 100000 in
theorem runs11 (x : Ln) (w : World) : Calls Try.prog 11 #[.agg (encL x).toArray] w fun e w' => e = .returned (.bool (runs x.1)) ∧ Below w.heap.size w w' := by
  obtain ⟨k, o, n, t, s⟩ := x
  show Calls Try.prog 11 #[.agg #[.int .i64 k, .bool o, .string n, .int .i64 t, .string s]] w fun e w' => e = .returned (.bool (runs k)) ∧ Below w.heap.size w w'
  cases h0 : (k == 0) <;> cases h1 : (k == 1)
  all_goals (
    go_enter Try.func11, Try.ntmps11
    go_wp2
    go_ret
    exact ⟨by simp only [runs, h0, h1]; rfl, (Below.refl _ _).alloc (Nat.le_refl _) _⟩)

/-- Block nb is a row of n lines of the call's own; its first k are L's. -/
def PartRow (w : World) (nb n k : Nat) (L : List Ln) : Prop :=
  ∃ cur : Array Value, w.heap[nb]? = some (.cells cur 39 (0, 0)) ∧ cur.size = n * 5 ∧ ∀ (j : Nat) (x : Ln), j < k → L[j]? = some x → ∀ q v, (encL x)[q]? = some v → cur[j * 5 + q]? = some v

theorem PartRow.step {w : World} {nb n k : Nat} {L : List Ln} {y : Ln} (h : PartRow w nb n k L) (hk : k < n) (hs : L[k]? = some y) :
    PartRow (w.setCells nb (k * 5) (encL y)) nb n (k + 1) L := by
  obtain ⟨cur, h1, h2, h3⟩ := h
  refine ⟨_, heap_setCells_same nb 39 _ _ _ _ h1, by rw [size_putAll, h2], fun j x hj hx q v hv => ?_⟩
  have hq : q < 5 := by have := (List.getElem?_eq_some_iff.1 hv).1; simpa [encL] using this
  by_cases e : j = k
  · subst e
    rw [putAll_in _ _ _ _ (by omega) (by simp [encL]; omega) (by simp [encL]; omega)]
    rw [hs] at hx; cases hx
    rw [show j * 5 + q - j * 5 = q by omega]; exact hv
  · rw [putAll_out _ _ _ _ (by simp [encL]; omega)]
    exact h3 j x (by omega) hx q v hv

theorem PartRow.drew {w : World} {nb n k : Nat} {L : List Ln} (h : PartRow w nb n k L) : PartRow w.drew nb n k L := h

theorem PartRow.step5 {w : World} {nb n k : Nat} {L : List Ln} {y0 : Int} {y1 : Bool} {y2 : ByteArray} {y3 : Int} {y4 : ByteArray} (h : PartRow w nb n k L) (hk : k < n) (hs : L[k]? = some (y0, y1, y2, y3, y4)) :
    PartRow (((((w.setCell ⟨nb, k * 5, none⟩ (.int .i64 y0)).setCell ⟨nb, k * 5 + 1, none⟩ (.bool y1)).setCell ⟨nb, k * 5 + 2, none⟩ (.string y2)).setCell ⟨nb, k * 5 + 3, none⟩ (.int .i64 y3)).setCell ⟨nb, k * 5 + 4, none⟩ (.string y4)).drew nb n (k + 1) L := by
  apply PartRow.drew
  have := h.step hk hs
  simp only [encL, World.setCells, Nat.add_assoc, Nat.reduceAdd] at this
  exact this

theorem below5 {B : Nat} {w w' : World} {nb o : Nat} {v0 v1 v2 v3 v4 : Value} (h : Below B w w') (hb : B ≤ nb) :
    Below B w (((((w'.setCell ⟨nb, o, none⟩ v0).setCell ⟨nb, o + 1, none⟩ v1).setCell ⟨nb, o + 2, none⟩ v2).setCell ⟨nb, o + 3, none⟩ v3).setCell ⟨nb, o + 4, none⟩ v4).drew :=
  (((((h.setCell (p := ⟨nb, o, none⟩) hb _).setCell (p := ⟨nb, o + 1, none⟩) hb _).setCell (p := ⟨nb, o + 2, none⟩) hb _).setCell (p := ⟨nb, o + 3, none⟩) hb _).setCell (p := ⟨nb, o + 4, none⟩) hb _).drew

theorem PartRow.known {w : World} {nb n k : Nat} {L : List Ln} (h : PartRow w nb n k L) (hk : k < n) :
    ∃ u0 u1 u2 u3 u4, w.cell? ⟨nb, k * 5, none⟩ = some u0 ∧ w.cell? ⟨nb, k * 5 + 1, none⟩ = some u1 ∧ w.cell? ⟨nb, k * 5 + 2, none⟩ = some u2 ∧ w.cell? ⟨nb, k * 5 + 3, none⟩ = some u3 ∧ w.cell? ⟨nb, k * 5 + 4, none⟩ = some u4 ∧ (∀ i, w.frozen? ⟨nb, i, none⟩ = false) ∧ nb < w.heap.size := by
  obtain ⟨cur, h1, h2, h3⟩ := h
  refine ⟨cur[k * 5], cur[k * 5 + 1], cur[k * 5 + 2], cur[k * 5 + 3], cur[k * 5 + 4], ?_, ?_, ?_, ?_, ?_, fun i => frozen_row h1 i, (Array.getElem?_eq_some_iff.1 h1).1⟩ <;> rw [cell_row h1, Array.getElem?_eq_getElem]

theorem PartRow.cells {w : World} {nb n : Nat} {L : List Ln} (h : PartRow w nb n n L) (hn : n = L.length) : LCells w nb 0 L := by
  obtain ⟨cur, h1, h2, h3⟩ := h
  intro j x hj
  have h4 := h3 j x (by have := (List.getElem?_eq_some_iff.1 hj).1; omega) hj
  simp only [Nat.zero_add, cell_row h1]
  exact ⟨h4 0 _ rfl, h4 1 _ rfl, h4 2 _ rfl, h4 3 _ rfl, h4 4 _ rfl⟩

theorem Try.info39 : (Try.prog.info? 39).map (fun i => (i.zero, i.size, i.bytes)) = some (some (.agg #[.int .i64 0, .bool false, .string ⟨#[]⟩, .int .i64 0, .string ⟨#[]⟩]), 5, 56) := by kernel_rfl

/-- What a call that copies lines leaves. -/
def Copied (w w' : World) (a : Option Addr) (n : Nat) (L : List Ln) : Prop :=
  LinesAt w' a n L ∧ Below w.heap.size w w' ∧ (0 < n → ∃ b, a = some ⟨b, 0, none⟩ ∧ w.heap.size ≤ b ∧ PartRow w' b n n L)

set_option maxRecDepth 100000 in
theorem lines_nil (w : World) : Calls Try.prog 10 #[.slice none 0 0] w fun e w' => e = .returned (.slice none 0 0) ∧ w' = w := by
  have hnil := fun (W : World) (x : Option Addr) (p q : Nat) => Lib.run_eql_slice_nil (P := Try.prog) W 22 36 x p q 0 0 Try.underlying22
  go_enter Try.func10, Try.ntmps10
  go_wp2
  go_ret
  exact ⟨rfl, rfl⟩

set_option maxHeartbeats 2000000 in
set_option maxRecDepth 100000 in
theorem lines_some (a : Addr) (n cap : Nat) (L : List Ln) (w : World) (hn : n ≤ 1048576) (hL : LinesAt w (some a) n L) :
    Calls Try.prog 10 #[.slice (some a) n cap] w fun e w' => ∃ a', e = .returned (.slice a' n n) ∧ Copied w w' a' n L := by
  obtain ⟨HN', ha⟩ := hL
  have HN : Hid (n = L.length) := HN'
  clear HN'
  obtain ⟨i0, hinf, hz0, hz1, hz2⟩ := info_parts Try.info39
  obtain ⟨MC, hMC, hmk⟩ : ∃ MC : Array Value, MC.size = n * 5 ∧ ∀ w : World, (Instr.makeSlice 30 (.int .i64 (n : Int)) (.int .i64 (n : Int))).run Try.prog w = .ok (.slice (some ⟨w.heap.size, 0, none⟩) n n) (w.alloc (.cells MC 39)) := by
    refine ⟨madeCells (Value.agg #[.int .i64 0, .bool false, .string ⟨#[]⟩, .int .i64 0, .string ⟨#[]⟩]).cells (n * 5), by rw [size_madeCells], fun w => ?_⟩
    have := run_make (P := Try.prog) w 30 39 i0 _ Try.underlying30 hinf hz0 .i64 .i64 (n : Int) (n : Int) (by omega) (Int.le_refl _) (by rw [hz2]; omega) (by omega)
    rw [hz1] at this
    exact this
  have H0 : Hid (PartRow (w.alloc (.cells MC 39)) w.heap.size n 0 L) := ⟨MC, heap_alloc_new w _, hMC, fun j x hj => absurd hj (Nat.not_lt_zero _)⟩
  have hnil := fun (W : World) (x : Option Addr) (p q : Nat) => Lib.run_eql_slice_nil (P := Try.prog) W 22 36 x p q 0 0 Try.underlying22
  clear hMC hinf hz0 hz1 hz2
  go_enter Try.func10, Try.ntmps10
  go_wp2
  go_loopw [4] (fun i wr => ∃ k : Nat, k ≤ n ∧ i = .int .i64 k ∧ Hid (Below w.heap.size w wr) ∧ Hid (PartRow wr w.heap.size n k L)) (fun i _ => n - (intOf i).toNat)
  case atStart => exact ⟨0, Nat.zero_le _, rfl, (Below.refl _ _).alloc (Nat.le_refl _) _, H0⟩
  case round =>
    obtain ⟨k, hk, rfl, HB, HA⟩ := hrel
    by_cases hlt' : k < n
    · have hltI : (k : Int) < (n : Int) := by omega
      have hk0 : (0 : Int) ≤ (k : Int) := by omega
      obtain ⟨x, hx⟩ : ∃ x, L[k]? = some x := ⟨_, List.getElem?_eq_getElem (show k < L.length by have := HN.out; omega)⟩
      obtain ⟨b, off, hab, hbw, hcells⟩ := ha (by omega)
      cases hab
      obtain ⟨c0, c1, c2, c3, c4⟩ := hcells.below hbw HB.out k x hx
      obtain ⟨s0, s1, s2, s3, s4⟩ := x
      obtain ⟨u0, u1, u2, u3, u4, v0, v1, v2, v3, v4, vf, vs⟩ := HA.out.known hlt'
      have HX : Hid (L[k]? = some (s0, s1, s2, s3, s4)) := hx
      have hbne : b ≠ w.heap.size := by omega
      simp only at c0 c1 c2 c3 c4
      clear hcells hx H0 ha
      go_wp2
      go_region
      all_goals
        go_wp2
        go_roundw
        case rel => exact ⟨k + 1, by omega, by go_num, below5 HB.out (Nat.le_refl _), HA.out.step5 hlt' HX.out⟩
        case measure => simp [intOf]; omega
    · have hkn : k = n := by omega
      subst hkn
      go_wp2
      go_ret
      refine ⟨_, rfl, ⟨HN.out, fun _ => ⟨_, _, rfl, (HA.out.cells HN.out |> fun _ => ?_), HA.out.cells HN.out⟩⟩, HB.out, fun _ => ⟨_, rfl, Nat.le_refl _, HA.out⟩⟩
      obtain ⟨cur, h1, _⟩ := HA.out
      exact (Array.getElem?_eq_some_iff.1 h1).1
end Go.Proofs.Qxb6627325a
