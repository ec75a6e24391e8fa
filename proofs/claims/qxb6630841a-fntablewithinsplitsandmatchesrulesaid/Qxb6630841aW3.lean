import Derived.Test.Qxb6630841aW2
namespace Go.Proofs.Qxb6630841a
open Go.RowKit

/-- A row's data: granted, registered, deadline, trading day, how many periods bar it. -/
abbrev Rw := Int × Int × Int × Bool × Nat
def rL (pa : Option Addr) (x : Rw) : List Value := rowL x.1 x.2.1 x.2.2.1 x.2.2.2.1 pa x.2.2.2.2 256
def ok (x : Rw) : Bool := okRow x.1 x.2.1 x.2.2.1 x.2.2.2.1 x.2.2.2.2
def TCells (w : World) (b off : Nat) (pa : Option Addr) (L : List Rw) : Prop := ∀ (j : Nat) (x : Rw), L[j]? = some x → w.rangeAt b (off + j * 18) (rL pa x)

theorem TCells.below {w w' : World} {b off : Nat} {pa : Option Addr} {L : List Rw} (h : TCells w b off pa L) (hb : b < w.heap.size) (hB : Below w.heap.size w w') : TCells w' b off pa L := by
  intro j x hj i v hv
  exact (hB.cell (p := ⟨b, _, none⟩) hb).trans (h j x hj i v hv)

abbrev zRow : Array Value := #[.string ⟨#[]⟩, .int .i64 0, .bool false, .pointer none, .slice none 0 0, .pointer none, .pointer none, .int .u64 0, .int .i64 0, .pointer none, .int .u64 0, .int .i64 0, .pointer none, .int .u64 0, .int .i64 0, .pointer none, .bool false, .slice none 0 0]

theorem there_new (w : World) (Z : Array Value) (t : Nat) : (w.alloc (.cells Z t)).there w.heap.size 0 Z.size := by
  intro j hj
  rw [Nat.zero_add, cell_row (heap_alloc_new w _), frozen_row (heap_alloc_new w _), Array.getElem?_eq_getElem hj]
  exact ⟨rfl, rfl⟩

theorem below_setCells {B b : Nat} (hb : B ≤ b) : ∀ (vs : List Value) (o : Nat) {w w' : World}, Below B w w' → Below B w (w'.setCells b o vs)
  | [], _, _, _, h => h
  | v :: r, o, _, _, h => below_setCells hb r (o + 1) (h.setCell (p := ⟨b, o, none⟩) hb v)

theorem size_setCells (b : Nat) : ∀ (vs : List Value) (o : Nat) (w : World), (w.setCells b o vs).heap.size = w.heap.size
  | [], _, _ => rfl
  | v :: r, o, w => by rw [World.setCells, size_setCells b r]; simp

theorem all_step {L : List Rw} {k : Nat} {x : Rw} (h : ∀ (j : Nat) (x : Rw), j < k → L[j]? = some x → ok x = true) (hx : L[k]? = some x) (ho : ok x = true) : ∀ (j : Nat) (x : Rw), j < k + 1 → L[j]? = some x → ok x = true := by
  intro j y hj hy
  by_cases e : j = k
  · subst e; rw [hx] at hy; cases hy; exact ho
  · exact h j y (by omega) hy
theorem all_bad {L : List Rw} {k : Nat} {x : Rw} (hx : L[k]? = some x) (ho : ok x = false) : L.all ok = false := by
  rw [List.all_eq_false]
  exact ⟨x, List.mem_of_getElem? hx, by simp [ho]⟩
theorem all_good {L : List Rw} {k : Nat} (h : ∀ (j : Nat) (x : Rw), j < k → L[j]? = some x → ok x = true) (hk : L.length ≤ k) : L.all ok = true := by
  rw [List.all_eq_true]
  intro x hx
  obtain ⟨j, hj⟩ := List.getElem?_of_mem hx
  exact h j x (by have := (List.getElem?_eq_some_iff.1 hj).1; omega) hj
theorem range_later {W w2 : World} {b o : Nat} {cs : List Value} (h : Hid (W.rangeAt b o cs)) (hb : b < W.heap.size) (hB : Below W.heap.size W w2) : Hid (w2.rangeAt b o cs) :=
  fun i v hv => (hB.cell (p := ⟨b, _, none⟩) hb).trans (h.out i v hv)

set_option maxRecDepth 100000 in
set_option maxHeartbeats 2000000 in
theorem table_any (sa : Option Addr) (n sc : Nat) (pa : Option Addr) (L : List Rw) (w : World) (hn : n ≤ 16384) (HN : Hid (n = L.length))
    (ha : 0 < n → ∃ b off, sa = some ⟨b, off, none⟩ ∧ b < w.heap.size ∧ TCells w b off pa L) :
    Calls Try.prog 7 #[.agg #[.slice sa n sc]] w fun e w' => e = .returned (.bool (L.all ok)) ∧ Below w.heap.size w w' := by
  have hi : Hid ((Try.prog.info? 44).map (·.size) = some 18) := Try.size44
  go_enter Try.func7, Try.ntmps7
  go_wp2
  go_loopw [4, 8] (fun _ i wr => ∃ k : Nat, k ≤ n ∧ i = .int .i64 k ∧ Hid (Below w.heap.size w wr) ∧ Hid (∀ (j : Nat) (x : Rw), j < k → L[j]? = some x → ok x = true)) (fun _ i _ => n - (intOf i).toNat)
  case atStart => exact ⟨0, Nat.zero_le _, rfl, (Below.refl _ _).alloc (Nat.le_refl _) _, fun j x hj => absurd hj (Nat.not_lt_zero _)⟩
  case round =>
    obtain ⟨k, hk, rfl, HB, HO⟩ := hrel
    by_cases hlt : k < n
    · have hltI : (k : Int) < (n : Int) := by omega
      obtain ⟨x, hx⟩ : ∃ x, L[k]? = some x := ⟨_, List.getElem?_eq_getElem (show k < L.length by have := HN.out; omega)⟩
      obtain ⟨b, off, rfl, hbw, hcl⟩ := ha (by omega)
      have q0 : Hid (wr.rangeAt b (off + k * 18) (rL pa x)) := (hcl.below hbw HB.out) k x hx
      have hi2 : Hid ((Try.prog.info? 44).map (·.size) = some (rL pa x).length) := hi.out
      have hbr : b < wr.heap.size := Nat.lt_of_lt_of_le hbw HB.out.size
      have hth : Hid (∀ Z : Array Value, Z.size = 18 → (wr.alloc (.cells Z 44)).there wr.heap.size 0 (rL pa x).toArray.size) := fun Z hZ => by
        have := there_new wr Z 44
        rw [hZ] at this
        exact this
      have hi3 : Hid ((Try.prog.info? 44).map (·.size) = some (rL pa x).toArray.size) := hi.out
      have hone : Hid ((rL pa x).toArray.all (·.oneCell') = true) := all_oneCell_toArray rowL_one
      have hbox : ∀ Z : Array Value, Z.size = 18 → ∃ W1, (wr.alloc (.cells Z 44)).setCells wr.heap.size 0 (rL pa x).toArray.toList = W1 ∧ Hid (Below wr.heap.size wr W1) ∧ Hid (W1.rangeAt wr.heap.size 0 (rL pa x)) ∧ wr.heap.size < W1.heap.size := by
        intro Z hZ
        refine ⟨_, rfl, below_setCells (Nat.le_refl _) _ _ ((Below.refl _ _).alloc (Nat.le_refl _) _), ?_, by rw [size_setCells]; simp⟩
        exact World.rangeAt_setCells_same _ _ _ _ (hth.out Z hZ)
      have cg := granted_L x.1 x.2.1 x.2.2.1 x.2.2.2.1 pa x.2.2.2.2 256
      have cw := within_L x.1 x.2.1 x.2.2.1 x.2.2.2.1 pa x.2.2.2.2 256
      have cg' : ∀ W : World, Calls Try.prog 12 #[.agg (rL pa x).toArray] W fun e w' => e = .returned (.bool (!(x.1 == 0))) ∧ Below W.heap.size W w' := cg
      have cw' : ∀ W : World, Calls Try.prog 13 #[.agg (rL pa x).toArray] W fun e w' => e = .returned (.bool (wRow x.1 x.2.1 x.2.2.1 x.2.2.2.1 x.2.2.2.2)) ∧ Below W.heap.size W w' := cw
      have hok : Hid (ok x = ((x.1 == 0) || wRow x.1 x.2.1 x.2.2.1 x.2.2.2.1 x.2.2.2.2)) := (rfl : ok x = ((x.1 == 0) || wRow x.1 x.2.1 x.2.2.1 x.2.2.2.1 x.2.2.2.2))
      have HX : Hid (L[k]? = some x) := hx
      generalize (x.1 == 0) = gz at cg' hok
      generalize wRow x.1 x.2.1 x.2.2.1 x.2.2.2.1 x.2.2.2.2 = wz at cw' hok
      clear hcl ha cg cw hx
      cases gz with
      | true =>
        go_wp2_with (first
          | (refine wpList_load_mid rfl 44 (.tmp 10) rfl b (off + k * 18) rfl (rL pa x) _ q0.out Try.underlying44 rfl hi2.out ?_)
          | (refine wpList_store_mid rfl 44 (.tmp 4) (.tmp 11) rfl wr.heap.size 0 (rL pa x).toArray rfl rfl (by exact hth.out zRow rfl) hi3.out hone.out ?_; obtain ⟨W1, hW1, HB1, q1, hz1⟩ := hbox zRow rfl; rw [hW1]; clear hW1)
          | (refine wpList_load_mid rfl 44 (.tmp 4) rfl wr.heap.size 0 rfl (rL pa x) _ q1.out Try.underlying44 rfl hi2.out ?_)
          | (go_at_call 12; refine (cg' _).mono ?_; rintro e w2 ⟨rfl, hb2⟩))
        go_roundw
        case rel => exact ⟨k + 1, by omega, by go_num, HB.out.trans ((below_chain HB1.out hb2).mono HB.out.size), all_step HO.out HX.out (by rw [hok.out]; rfl)⟩
        case measure => simp [intOf]; omega
      | false =>
        cases wz with
        | true =>
          go_wp2_with (first
            | (refine wpList_load_mid rfl 44 (.tmp 10) rfl b (off + k * 18) rfl (rL pa x) _ q0.out Try.underlying44 rfl hi2.out ?_)
            | (refine wpList_store_mid rfl 44 (.tmp 4) (.tmp 11) rfl wr.heap.size 0 (rL pa x).toArray rfl rfl (by exact hth.out zRow rfl) hi3.out hone.out ?_; obtain ⟨W1, hW1, HB1, q1, hz1⟩ := hbox zRow rfl; rw [hW1]; clear hW1)
            | (refine wpList_load_mid rfl 44 (.tmp 4) rfl wr.heap.size 0 rfl (rL pa x) _ q1.out Try.underlying44 rfl hi2.out ?_)
            | (go_at_call 12; refine (cg' _).mono ?_; rintro e w2 ⟨rfl, hb2⟩; have q2 := range_later q1 hz1 hb2)
            | (refine wpList_load_midg (by rfl) 44 (.tmp 4) rfl wr.heap.size 0 rfl (rL pa x) _ q2.out Try.underlying44 rfl hi2.out ?_)
            | (go_at_call 13; refine (cw' _).mono ?_; rintro e w3 ⟨rfl, hb3⟩))
          go_roundw
          case rel => exact ⟨k + 1, by omega, by go_num, HB.out.trans ((below_chain (below_chain HB1.out hb2) hb3).mono HB.out.size), all_step HO.out HX.out (by rw [hok.out]; rfl)⟩
          case measure => simp [intOf]; omega
        | false =>
          go_wp2_with (first
            | (refine wpList_load_mid rfl 44 (.tmp 10) rfl b (off + k * 18) rfl (rL pa x) _ q0.out Try.underlying44 rfl hi2.out ?_)
            | (refine wpList_store_mid rfl 44 (.tmp 4) (.tmp 11) rfl wr.heap.size 0 (rL pa x).toArray rfl rfl (by exact hth.out zRow rfl) hi3.out hone.out ?_; obtain ⟨W1, hW1, HB1, q1, hz1⟩ := hbox zRow rfl; rw [hW1]; clear hW1)
            | (refine wpList_load_mid rfl 44 (.tmp 4) rfl wr.heap.size 0 rfl (rL pa x) _ q1.out Try.underlying44 rfl hi2.out ?_)
            | (go_at_call 12; refine (cg' _).mono ?_; rintro e w2 ⟨rfl, hb2⟩; have q2 := range_later q1 hz1 hb2)
            | (refine wpList_load_midg (by rfl) 44 (.tmp 4) rfl wr.heap.size 0 rfl (rL pa x) _ q2.out Try.underlying44 rfl hi2.out ?_)
            | (go_at_call 13; refine (cw' _).mono ?_; rintro e w3 ⟨rfl, hb3⟩))
          go_ret
          exact ⟨by rw [all_bad HX.out (by rw [hok.out]; rfl)]; rfl, HB.out.trans ((below_chain (below_chain HB1.out hb2) hb3).mono HB.out.size)⟩
    · go_wp2
      go_ret
      exact ⟨by rw [all_good HO.out (by have := HN.out; omega)]; rfl, HB.out⟩
end Go.Proofs.Qxb6630841a
