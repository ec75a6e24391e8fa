import Derived.Test.Qxb6630841aW7
namespace Go.Proofs.Qxb6630841a
open Go.RowKit

def clr (x : Rw) : Rw := (x.1, x.2.1, 0, x.2.2.2.1, x.2.2.2.2)
theorem ok_clr (x : Rw) : ok (clr x) = prm x := by
  simp [ok, clr, okRow, wRow, prm]
theorem ok_prm (x : Rw) (h : ok x = true) : prm x = true := by
  unfold ok okRow wRow at h
  unfold prm
  cases h1 : (x.1 == 0) with
  | true => rfl
  | false =>
    rw [h1] at h
    simp only [Bool.false_or, Bool.and_eq_true] at h ⊢
    exact h.1.1
theorem all_clr (L : List Rw) : (L.map clr).all ok = L.all prm := by
  rw [List.all_map]
  congr 1
  funext x
  exact ok_clr x
theorem all_ok_prm (L : List Rw) (h : L.all ok = true) : L.all prm = true := by
  rw [List.all_eq_true] at h ⊢
  exact fun x hx => ok_prm x (h x hx)

theorem Try.info31 : (Try.prog.info? 31).map (fun i => (i.zero, i.size, i.bytes)) = some (some (.agg #[.int .i64 0, .int .i64 0, .int .i64 0, .bool false, .int .u8 0]), 5, 32) := by kernel_rfl
theorem make31 (n : Nat) (hn : n ≤ 16384) : ∃ MC : Array Value, MC.size = n * 5 ∧ ∀ w : World, (Instr.makeSlice 22 (.int .i64 (n : Int)) (.int .i64 (n : Int))).run Try.prog w = .ok (.slice (some ⟨w.heap.size, 0, none⟩) n n) (w.alloc (.cells MC 31)) := by
  obtain ⟨i0, hinf, hz0, hz1, hz2⟩ := info_parts Try.info31
  refine ⟨madeCells (Value.agg #[.int .i64 0, .int .i64 0, .int .i64 0, .bool false, .int .u8 0]).cells (n * 5), by rw [size_madeCells], fun w => ?_⟩
  have := run_make (P := Try.prog) w 22 31 i0 _ Try.underlying22 hinf hz0 .i64 .i64 (n : Int) (n : Int) (by omega) (Int.le_refl _) (by rw [hz2]; omega) (by omega)
  rw [hz1] at this
  exact this

def inL (x : Rw) : List Value := [.int .i64 x.1, .int .i64 x.2.1, .int .i64 x.2.2.1, .bool x.2.2.2.1, .int .u8 (x.2.2.2.2 : Int)]
/-- Block nb is a slice of n rows of the call's own; its first k are L's with no deadline. -/
def PartC (w : World) (nb n k : Nat) (L : List Rw) : Prop :=
  ∃ cur : Array Value, w.heap[nb]? = some (.cells cur 31 (0, 0)) ∧ cur.size = n * 5 ∧ ∀ (j : Nat) (x : Rw), j < k → L[j]? = some x → ∀ q v, (inL (clr x))[q]? = some v → cur[j * 5 + q]? = some v

theorem PartC.step {w : World} {nb n k : Nat} {L : List Rw} {x : Rw} (h : PartC w nb n k L) (hk : k < n) (hx : L[k]? = some x) : PartC (w.setCells nb (k * 5) (inL (clr x))) nb n (k + 1) L := by
  obtain ⟨cur, h1, h2, h3⟩ := h
  have hl : (inL (clr x)).length = 5 := rfl
  refine ⟨_, heap_setCells_same nb 31 _ _ _ _ h1, by rw [size_putAll, h2], fun j y hj hy q v hv => ?_⟩
  have hq : q < 5 := by have := (List.getElem?_eq_some_iff.1 hv).1; rw [show (inL (clr y)).length = 5 from rfl] at this; exact this
  by_cases e : j = k
  · subst e
    rw [hx] at hy; cases hy
    rw [putAll_in _ _ _ _ (by omega) (by omega) (by omega), show j * 5 + q - j * 5 = q by omega]
    exact hv
  · rw [putAll_out _ _ _ _ (by omega)]
    exact h3 j y (by omega) hy q v hv
theorem PartC.lt {w : World} {nb n k : Nat} {L : List Rw} (h : PartC w nb n k L) : nb < w.heap.size := by
  obtain ⟨cur, h1, h2⟩ := h
  exact (Array.getElem?_eq_some_iff.1 h1).1
theorem PartC.of_block {w w' : World} {nb n k : Nat} {L : List Rw} (h : PartC w nb n k L) (hb : w'.heap[nb]? = w.heap[nb]?) : PartC w' nb n k L := by
  obtain ⟨cur, h1, h2⟩ := h
  exact ⟨cur, hb.trans h1, h2⟩
theorem PartC.step5 {w : World} {nb n k : Nat} {L : List Rw} {g r d : Int} {t : Bool} {m : Nat} {o : Obj} (h : PartC w nb n k L) (hk : k < n) (hx : L[k]? = some (g, r, d, t, m)) :
    PartC ((((((w.setCell ⟨nb, k * 5, none⟩ (.int .i64 g)).setCell ⟨nb, k * 5 + 1, none⟩ (.int .i64 r)).setCell ⟨nb, k * 5 + 2, none⟩ (.int .i64 0)).setCell ⟨nb, k * 5 + 3, none⟩ (.bool t)).setCell ⟨nb, k * 5 + 4, none⟩ (.int .u8 (m : Int))).alloc o) nb n (k + 1) L := by
  have h1 := h.step hk hx
  exact h1.of_block (Below.heap_alloc _ _ _ h1.lt)
theorem PartC.known {w : World} {nb n k : Nat} {L : List Rw} (h : PartC w nb n k L) (hk : k < n) :
    ∃ u0 u1 u2 u3 u4, w.cell? ⟨nb, k * 5, none⟩ = some u0 ∧ w.cell? ⟨nb, k * 5 + 1, none⟩ = some u1 ∧ w.cell? ⟨nb, k * 5 + 2, none⟩ = some u2 ∧ w.cell? ⟨nb, k * 5 + 3, none⟩ = some u3 ∧ w.cell? ⟨nb, k * 5 + 4, none⟩ = some u4 ∧ (∀ i, w.frozen? ⟨nb, i, none⟩ = false) ∧ nb < w.heap.size := by
  obtain ⟨cur, h1, h2, h3⟩ := h
  refine ⟨cur[k * 5], cur[k * 5 + 1], cur[k * 5 + 2], cur[k * 5 + 3], cur[k * 5 + 4], ?_, ?_, ?_, ?_, ?_, fun i => frozen_row h1 i, (Array.getElem?_eq_some_iff.1 h1).1⟩ <;> rw [cell_row h1, Array.getElem?_eq_getElem]
theorem PartC.arg {w : World} {nb n : Nat} {L : List Rw} (h : PartC w nb n n L) (hn : n = L.length) (hF : InFits L) : ArgR w (some ⟨nb, 0, none⟩) n n (L.map clr) := by
  obtain ⟨cur, h1, h2, h3⟩ := h
  refine ⟨by simpa using hn, ?_, .inr ⟨_, rfl, fun _ => ⟨nb, 0, rfl, (Array.getElem?_eq_some_iff.1 h1).1, ?_⟩⟩⟩
  · intro x hx
    obtain ⟨y, hy, rfl⟩ := List.mem_map.1 hx
    obtain ⟨a1, a2, a3, a4⟩ := hF y hy
    exact ⟨a1, a2, by simp [clr], a4⟩
  · intro j x hj
    rw [List.getElem?_map] at hj
    cases hy : L[j]? with
    | none => rw [hy] at hj; cases hj
    | some y =>
      rw [hy] at hj
      cases hj
      have hjn : j < n := by have := (List.getElem?_eq_some_iff.1 hy).1; omega
      have h4 := h3 j y hjn hy
      simp only [Nat.zero_add, cell_row h1]
      exact ⟨h4 0 _ rfl, h4 1 _ rfl, h4 2 _ rfl, h4 3 _ rfl, h4 4 _ rfl⟩
theorem below5 {B nb o : Nat} {w w' : World} {v0 v1 v2 v3 v4 : Value} {ob : Obj} (h : Below B w w') (hb : B ≤ nb) (hs : B ≤ w'.heap.size) :
    Below B w ((((((w'.setCell ⟨nb, o, none⟩ v0).setCell ⟨nb, o + 1, none⟩ v1).setCell ⟨nb, o + 2, none⟩ v2).setCell ⟨nb, o + 3, none⟩ v3).setCell ⟨nb, o + 4, none⟩ v4).alloc ob) :=
  (((((h.setCell (p := ⟨nb, o, none⟩) hb _).setCell (p := ⟨nb, o + 1, none⟩) hb _).setCell (p := ⟨nb, o + 2, none⟩) hb _).setCell (p := ⟨nb, o + 3, none⟩) hb _).setCell (p := ⟨nb, o + 4, none⟩) hb _).alloc (by simpa using hs) _

set_option maxRecDepth 100000 in
set_option maxHeartbeats 1000000 in
theorem nodl_any (a : Option Addr) (n cap : Nat) (L : List Rw) (w : World) (hA : ArgR w a n cap L) (hn : n ≤ maxLen) :
    Calls Try.prog 4 #[.slice a n cap] w fun e w' => e = .returned (.bool true) ∧ Below w.heap.size w w' := by
  have c5 := bytes4 a n cap w hn
  have HA : Hid (ArgR w a n cap L) := hA
  have hnil := fun (W : World) (x : Option Addr) (p q : Nat) => run_neq_slice_nil_any (P := Try.prog) W 22 31 x p q 0 0 Try.underlying22
  unfold maxLen at hn
  by_cases hn1 : n ≤ 16384
  · obtain ⟨MC, hMC, hmk⟩ := make31 n hn1
    have hA3 := hA.2.2
    have HK : Hid (n = L.length) := hA.1
    have HF : Hid (InFits L) := hA.2.1
    clear hA
    go_enter Try.func4, Try.ntmps4
    go_wp2_with fail
    refine c5.mono ?_
    rintro e w' ⟨rb, rfl, rfl⟩
    cases rb with
    | false =>
      go_wp2
      go_ret
      exact ⟨rfl, Below.refl _ _⟩
    | true =>
      clear c5
      rcases hA3 with ⟨rfl, rfl, rfl⟩ | ⟨ad, rfl, hcl⟩
      · have hL : L = [] := List.length_eq_zero_iff.1 HK.out.symm
        subst hL
        have HA1 : Hid (ArgR w' none 0 0 []) := HA.out
        have HA2 : Hid (ArgR w' none 0 0 (([] : List Rw).map clr)) := HA.out
        have HBW : Hid (Below w'.heap.size w' w') := Below.refl _ _
        clear hMC hmk
        obtain ⟨P, hP⟩ : ∃ P, P = ([] : List Rw).all ok := ⟨_, rfl⟩
        obtain ⟨Q, hQ⟩ : ∃ Q, Q = ([] : List Rw).all prm := ⟨_, rfl⟩
        have HPE : Hid (P = ([] : List Rw).all ok) := hP
        have HQE : Hid (Q = ([] : List Rw).all prm) := hQ
        have HPQ : Hid (P = true → Q = true) := fun h => by rw [hQ]; exact all_ok_prm [] (by rw [← hP]; exact h)
        clear hP hQ
        have c6 := build_L none 0 0 [] _ HA1.out (by omega)
        go_wp2_with fail
        refine c6.mono ?_
        rintro e w1 ⟨sa, pa, rfl, hb1, hT1, _, _⟩
        have HB1 : Hid (Below w'.heap.size w' w1) := hb1
        have Hu1 : Hid (Built w1 sa 0 pa []) := ⟨HK.out, hT1⟩
        have hx1 : Below w1.heap.size w1 (w1.alloc (.cells #[.slice sa 0 0] 27)) := (Below.refl _ _).alloc (Nat.le_refl _) _
        have c7 := build_L none 0 0 (([] : List Rw).map clr) (w1.alloc (.cells #[.slice sa 0 0] 27)) (HA2.out.below (below_chain HB1.out hx1)) (by omega)
        clear c6 hb1 hT1
        go_wp2_with fail
        refine c7.mono ?_
        rintro e w2 ⟨sb, pb, rfl, hb2, hT2, _, _⟩
        have d1 : w2.cell? ⟨w1.heap.size, 0, none⟩ = some (.slice sa 0 0) := cell1 ((hb2.block _ (by simp)).trans (heap_alloc_new w1 _))
        have z1 : w1.heap.size < w2.heap.size := by have := hb2.size; simp at this; omega
        have HB2 : Hid (Below w1.heap.size w1 w2) := below_chain hx1 hb2
        have Hu2 : Hid (Built w2 sb 0 pb (([] : List Rw).map clr)) := ⟨by rw [List.length_map]; exact HK.out, hT2⟩
        have hx2 : Below w2.heap.size w2 (w2.alloc (.cells #[.slice sb 0 0] 27)) := (Below.refl _ _).alloc (Nat.le_refl _) _
        have t1 := table_B sa 0 0 pa [] (w2.alloc (.cells #[.slice sb 0 0] 27)) (by omega) (Hu1.out.below (below_chain HB2.out hx2))
        rw [← HPE.out] at t1
        clear c7 hb2 hT2 hx1
        go_wp2_with fail
        refine t1.mono ?_
        rintro e w3 ⟨rfl, hb3⟩
        have d2 : w3.cell? ⟨w2.heap.size, 0, none⟩ = some (.slice sb 0 0) := cell1 ((hb3.block _ (by simp)).trans (heap_alloc_new w2 _))
        have HB3 : Hid (Below w2.heap.size w2 w3) := below_chain hx2 hb3
        have t2 := table_B sb 0 0 pb (([] : List Rw).map clr) w3 (by omega) (Hu2.out.below HB3.out)
        rw [all_clr, ← HQE.out] at t2
        clear t1 hb3 hx2 d1
        go_wp2_with fail
        refine t2.mono ?_
        rintro e w4 ⟨rfl, hb4⟩
        have HB4 : Hid (Below w'.heap.size w' w4) := below_chain (below_chain (below_chain HB1.out HB2.out) HB3.out) hb4
        have t3 := allPermitted none 0 0 [] w4 (HA1.out.below HB4.out) (by omega)
        rw [← HQE.out] at t3
        clear t2 hb4 d2
        cases P with
        | true =>
          obtain rfl : Q = true := HPQ.out rfl
          go_wp2_with (go_at_call 10; refine t3.mono ?_; rintro e w7 ⟨rfl, rfl⟩)
          go_ret
          exact ⟨rfl, below_chain HBW.out HB4.out⟩
        | false =>
          cases Q with
          | true =>
            go_wp2_with (go_at_call 10; refine t3.mono ?_; rintro e w7 ⟨rfl, rfl⟩)
            go_ret
            exact ⟨rfl, below_chain HBW.out HB4.out⟩
          | false =>
            go_wp2_with (go_at_call 10; refine t3.mono ?_; rintro e w7 ⟨rfl, rfl⟩)
            go_ret
            exact ⟨rfl, below_chain HBW.out HB4.out⟩
      · have H0 : Hid (PartC (w'.alloc (.cells MC 31)) w'.heap.size n 0 L) := ⟨MC, heap_alloc_new w' _, hMC, fun j x hj => absurd hj (Nat.not_lt_zero _)⟩
        clear hMC
        go_wp2
        go_loopw [4, 5] (fun i _ wr => ∃ k : Nat, k ≤ n ∧ i = .int .i64 k ∧ Hid (Below w'.heap.size w' wr) ∧ Hid (PartC wr w'.heap.size n k L)) (fun i _ _ => n - (intOf i).toNat)
        case atStart => exact ⟨0, Nat.zero_le _, rfl, (Below.refl _ _).alloc (Nat.le_refl _) _, H0⟩
        case round =>
          obtain ⟨k, hk, rfl, HB, HP⟩ := hrel
          by_cases hlt : k < n
          · have hltI : (k : Int) < (n : Int) := by omega
            have hk0 : (0 : Int) ≤ (k : Int) := by omega
            obtain ⟨x, hx⟩ : ∃ x, L[k]? = some x := ⟨_, List.getElem?_eq_getElem (show k < L.length by have := HK.out; omega)⟩
            obtain ⟨b, off, rfl, hbw, hcc⟩ := hcl (by omega)
            obtain ⟨c0, c1, c2, c3, c4⟩ := (hcc.below hbw HB.out) k x hx
            obtain ⟨u0, u1, u2, u3, u4, e0, e1, e2, e3, e4, ef, es⟩ := HP.out.known hlt
            obtain ⟨g, r, d, t, m⟩ := x
            simp only at c0 c1 c2 c3 c4
            have HX : Hid (L[k]? = some (g, r, d, t, m)) := hx
            have hbr : b < wr.heap.size := Nat.lt_of_lt_of_le hbw HB.out.size
            clear hcc hcl hx H0 hmk hnil HA
            go_wp2
            go_roundw
            case rel => exact ⟨k + 1, by omega, by go_num, below5 HB.out (Nat.le_refl _) HB.out.size, HP.out.step5 hlt HX.out⟩
            case measure => simp [intOf]; omega
          · have hkn : k = n := by omega
            subst hkn
            have HBW : Hid (Below w'.heap.size w' wr) := HB
            have HA1 : Hid (ArgR wr (some ad) k cap L) := HA.out.below HB.out
            have HA2 : Hid (ArgR wr (some ⟨w'.heap.size, 0, none⟩) k k (L.map clr)) := HP.out.arg HK.out HF.out
            clear hcl H0 hmk hnil
            obtain ⟨P, hP⟩ : ∃ P, P = L.all ok := ⟨_, rfl⟩
            obtain ⟨Q, hQ⟩ : ∃ Q, Q = L.all prm := ⟨_, rfl⟩
            have HPE : Hid (P = L.all ok) := hP
            have HQE : Hid (Q = L.all prm) := hQ
            have HPQ : Hid (P = true → Q = true) := fun h => by rw [hQ]; exact all_ok_prm L (by rw [← hP]; exact h)
            clear hP hQ
            have c6 := build_L (some ad) k cap L _ HA1.out hn1
            go_wp2_with fail
            refine c6.mono ?_
            rintro e w1 ⟨sa, pa, rfl, hb1, hT1, _, _⟩
            have HB1 : Hid (Below wr.heap.size wr w1) := hb1
            have Hu1 : Hid (Built w1 sa k pa L) := ⟨HK.out, hT1⟩
            have hx1 : Below w1.heap.size w1 (w1.alloc (.cells #[.slice sa k k] 27)) := (Below.refl _ _).alloc (Nat.le_refl _) _
            have c7 := build_L (some ⟨w'.heap.size, 0, none⟩) k k (L.map clr) (w1.alloc (.cells #[.slice sa k k] 27)) (HA2.out.below (below_chain HB1.out hx1)) hn1
            clear c6 hb1 hT1
            go_wp2_with fail
            refine c7.mono ?_
            rintro e w2 ⟨sb, pb, rfl, hb2, hT2, _, _⟩
            have d1 : w2.cell? ⟨w1.heap.size, 0, none⟩ = some (.slice sa k k) := cell1 ((hb2.block _ (by simp)).trans (heap_alloc_new w1 _))
            have z1 : w1.heap.size < w2.heap.size := by have := hb2.size; simp at this; omega
            have HB2 : Hid (Below w1.heap.size w1 w2) := below_chain hx1 hb2
            have Hu2 : Hid (Built w2 sb k pb (L.map clr)) := ⟨by rw [List.length_map]; exact HK.out, hT2⟩
            have hx2 : Below w2.heap.size w2 (w2.alloc (.cells #[.slice sb k k] 27)) := (Below.refl _ _).alloc (Nat.le_refl _) _
            have t1 := table_B sa k k pa L (w2.alloc (.cells #[.slice sb k k] 27)) hn1 (Hu1.out.below (below_chain HB2.out hx2))
            rw [← HPE.out] at t1
            clear c7 hb2 hT2 hx1
            go_wp2_with fail
            refine t1.mono ?_
            rintro e w3 ⟨rfl, hb3⟩
            have d2 : w3.cell? ⟨w2.heap.size, 0, none⟩ = some (.slice sb k k) := cell1 ((hb3.block _ (by simp)).trans (heap_alloc_new w2 _))
            have HB3 : Hid (Below w2.heap.size w2 w3) := below_chain hx2 hb3
            have t2 := table_B sb k k pb (L.map clr) w3 hn1 (Hu2.out.below HB3.out)
            rw [all_clr, ← HQE.out] at t2
            clear t1 hb3 hx2 d1
            go_wp2_with fail
            refine t2.mono ?_
            rintro e w4 ⟨rfl, hb4⟩
            have HB4 : Hid (Below wr.heap.size wr w4) := below_chain (below_chain (below_chain HB1.out HB2.out) HB3.out) hb4
            have t3 := allPermitted (some ad) k cap L w4 (HA1.out.below HB4.out) hn1
            rw [← HQE.out] at t3
            clear t2 hb4 d2
            cases P with
            | true =>
              obtain rfl : Q = true := HPQ.out rfl
              go_wp2_with (go_at_call 10; refine t3.mono ?_; rintro e w7 ⟨rfl, rfl⟩)
              go_ret
              exact ⟨rfl, below_chain HBW.out HB4.out⟩
            | false =>
              cases Q with
              | true =>
                go_wp2_with (go_at_call 10; refine t3.mono ?_; rintro e w7 ⟨rfl, rfl⟩)
                go_ret
                exact ⟨rfl, below_chain HBW.out HB4.out⟩
              | false =>
                go_wp2_with (go_at_call 10; refine t3.mono ?_; rintro e w7 ⟨rfl, rfl⟩)
                go_ret
                exact ⟨rfl, below_chain HBW.out HB4.out⟩
  · have hn2 : (16384 : Int) < (n : Int) := by omega
    go_enter Try.func4, Try.ntmps4
    go_wp2_with fail
    refine c5.mono ?_
    rintro e w' ⟨rb, rfl, rfl⟩
    cases rb
    all_goals
      go_wp2
      go_ret
      exact ⟨rfl, Below.refl _ _⟩
end Go.Proofs.Qxb6630841a
