import Derived.Test.Qxb6627325aP1
import Derived.Test.Qxb6627325aW4
namespace Go.Proofs.Qxb6627325a
open Go.RowKit

/-- What the call may leave: true, and what was there as it was. -/
def Fin (w : World) (e : Ending) (w' : World) : Prop := e = .returned (.bool true) ∧ Below w.heap.size w w'

/-- The argument's slices: a nil one has no spare. -/
structure Args (w : World) (la : Option Addr) (ln lc : Nat) (L : List Ln) (a : Option Addr) (n cap : Nat) (S : List Sc) : Prop where
  lead : LinesAt w la ln L
  leadc : la = none → lc = 0
  secs : SecsAt w a n S
  secc : a = none → cap = 0
  each : ∀ x ∈ S, x.la = none → x.lc = 0

theorem at_key {S T : List Sc} {i : Nat} {x : Sc} (h : T.map key = S.map key) (hx : S[i]? = some x) : ∃ x2, T[i]? = some x2 ∧ x2.name = x.name ∧ x2.ln = x.ln ∧ x2.lines = x.lines := by
  have e : (T.map key)[i]? = (S.map key)[i]? := by rw [h]
  rw [List.getElem?_map, List.getElem?_map, hx] at e
  cases ht : T[i]? with
  | none => rw [ht] at e; cases e
  | some x2 =>
    rw [ht] at e
    simp only [Option.map_some, key, Option.some.injEq, Prod.mk.injEq] at e
    exact ⟨x2, rfl, e.1, e.2.1, e.2.2⟩

theorem Half.at {w : World} {nb n i : Nat} {S T : List Sc} {x : Sc} (h : Half w nb n n S T) (hx : T[i]? = some x) :
    w.cell? ⟨nb, i * 2 + 1, none⟩ = some (.slice x.la x.ln x.lc) ∧ nb < w.heap.size := by
  obtain ⟨⟨cur, h1, h2, h3⟩, _⟩ := h
  exact ⟨by rw [cell_row h1]; exact (h3 i x hx).2, (Array.getElem?_eq_some_iff.1 h1).1⟩

theorem ln_of_key {S T : List Sc} (h : T.map key = S.map key) (hs : ∀ x ∈ S, x.ln ≤ 1048576) : ∀ x ∈ T, x.ln ≤ 1048576 := by
  intro x hx
  have : key x ∈ S.map key := by rw [← h]; exact List.mem_map_of_mem hx
  obtain ⟨z, hz, e⟩ := List.mem_map.1 this
  have e2 : z.ln = x.ln := by simp only [key, Prod.mk.injEq] at e; exact e.2.1
  rw [← e2]; exact hs z hz
theorem ln_flip {T : List Sc} {i j : Nat} {x : Sc} {y : Ln} {v : Bool} (hx : T[i]? = some x) (hs : ∀ x ∈ T, x.ln ≤ 1048576) : ∀ z ∈ flipS T i j x y v, z.ln ≤ 1048576 := by
  intro z hz
  rcases List.mem_or_eq_of_mem_set hz with h | h
  · exact hs z h
  · rw [h]; exact hs x (List.mem_of_getElem? hx)

theorem frozen_alloc {w : World} {b k : Nat} (o : Obj) (h : b < w.heap.size) : (w.alloc o).frozen? ⟨b, k, none⟩ = w.frozen? ⟨b, k, none⟩ := by
  simp [World.frozen?, Below.heap_alloc w o _ h]

/-- All that the flip wants and gives, in the world WB in which the second script is laid (V2: its cells). -/
theorem flip_facts {wo wA wB : World} {nb1 nb2 n i j : Nat} {S S1 S2 : List Sc} {x : Sc} {y : Ln} {V1 V2 : Array Value}
    (B1 : Below wo.heap.size wo wA) (H1 : Half wA nb1 n n S S1)
    (HB2 : Built (wA.alloc (.cells V1 33)) wB (some ⟨nb2, 0, none⟩) n S S2) (hn2 : wA.heap.size + 1 ≤ nb2) (H2 : Half wB nb2 n n S S2)
    (hx : S[i]? = some x) (hy : x.lines[j]? = some y) (hjn : j < x.ln) :
    ∃ bf xc x2, wB.cell? ⟨nb2, i * 2 + 1, none⟩ = some (.slice (some ⟨bf, 0, none⟩) x.ln xc) ∧ nb2 < bf ∧ bf < wB.heap.size ∧
      wB.cell? ⟨bf, j * 5 + 1, none⟩ = some (.bool y.2.1) ∧ (∀ k, wB.frozen? ⟨bf, k, none⟩ = false) ∧
      wB.heap[wA.heap.size]? = some (.cells V1 33 (0, 0)) ∧ Below wo.heap.size wo wB ∧ S2[i]? = some x2 ∧ x2.lines[j]? = some y ∧
      (∀ v : Bool, SecsAt ((wB.setCell ⟨bf, j * 5 + 1, none⟩ (.bool v)).alloc (.cells V2 33)) (some ⟨nb1, 0, none⟩) n S1 ∧
        SecsAt ((wB.setCell ⟨bf, j * 5 + 1, none⟩ (.bool v)).alloc (.cells V2 33)) (some ⟨nb2, 0, none⟩) n (flipS S2 i j x2 y v) ∧
        ((wB.setCell ⟨bf, j * 5 + 1, none⟩ (.bool v)).alloc (.cells V2 33)).heap[wB.heap.size]? = some (.cells V2 33 (0, 0)) ∧
        Below wo.heap.size wo ((wB.setCell ⟨bf, j * 5 + 1, none⟩ (.bool v)).alloc (.cells V2 33))) := by
  obtain ⟨x2, hx2, _, eln, elines⟩ := at_key HB2.same hx
  have hx2m : x2 ∈ S2 := List.mem_of_getElem? hx2
  obtain ⟨bf, ela, hnb, hrow⟩ := (H2.own x2 hx2m).2 (by omega)
  have hcell := (H2.at hx2).1
  rw [ela, eln] at hcell
  have hy2 : x2.lines[j]? = some y := by rw [elines]; exact hy
  have hbf := hrow.lt
  have hc := (hrow.cells (H2.own x2 hx2m).1) j y hy2
  have hszA : (wA.alloc (.cells V1 33)).heap.size = wA.heap.size + 1 := by simp
  have hAB : Below wA.heap.size wA wB := ((Below.refl _ _).alloc (Nat.le_refl _) _).trans (HB2.below.mono (by omega))
  have hoB : Below wo.heap.size wo wB := B1.trans (hAB.mono B1.size)
  have hAF : ∀ v : Bool, Below wA.heap.size wA ((wB.setCell ⟨bf, j * 5 + 1, none⟩ (.bool v)).alloc (.cells V2 33)) := fun v => (hAB.setCell (p := ⟨bf, j * 5 + 1, none⟩) (by show wA.heap.size ≤ bf; omega) _).alloc (by simpa using hAB.size) _
  have hszS : ∀ v : Bool, (wB.setCell ⟨bf, j * 5 + 1, none⟩ (.bool v)).heap.size = wB.heap.size := fun v => by simp
  refine ⟨bf, x2.lc, x2, hcell, hnb, hbf, by simpa using hc.2.1, ?_, (HB2.below.block _ (by omega)).trans (heap_alloc_new wA _), hoB, hx2, hy2, fun v => ⟨H1.secs.below (hAF v), ((H2.flip hx2 hy2 ela).later ((Below.refl _ _).alloc (Nat.le_refl _) _)).secs, ?_, ?_⟩⟩
  · obtain ⟨cur, h1, _⟩ := hrow
    exact fun k => frozen_row h1 k
  · have := heap_alloc_new (wB.setCell ⟨bf, j * 5 + 1, none⟩ (.bool v)) (.cells V2 33)
    rw [hszS v] at this
    exact this
  · exact B1.trans ((hAF v).mono B1.size)

set_option maxRecDepth 100000 in
set_option maxHeartbeats 4000000 in
theorem law_in (s0 s1 s2 s3 s4 : ByteArray) (la : Option Addr) (ln lc : Nat) (L : List Ln) (b off n cap : Nat) (S : List Sc) (i j : Nat) (w : World)
    (x : Sc) (y : Ln) (b2 off2 : Nat)
    (hA : Args w la ln lc L (some ⟨b, off, none⟩) n cap S)
    (hx : S[i]? = some x) (hy : x.lines[j]? = some y) (hin : i < n) (hjn : j < x.ln)
    (hb : b < w.heap.size) (hc : SCells w b off S) (hla : x.la = some ⟨b2, off2, none⟩) (hb2 : b2 < w.heap.size) (hlc : LCells w b2 off2 x.lines) :
    Calls Try.prog 3 #[.string s0, .string s1, .string s2, .string s3, .string s4, .slice la ln lc, .slice (some ⟨b, off, none⟩) n cap, .int .i64 i, .int .i64 j] w (Fin w) := by
  have hinI : (i : Int) < (n : Int) := by omega
  have hi0 : (0 : Int) ≤ (i : Int) := by omega
  have hjI : (j : Int) < (x.ln : Int) := by omega
  have hj0 : (0 : Int) ≤ (j : Int) := by omega
  obtain ⟨c0, c1⟩ := hc i x hx
  obtain ⟨d0, d1, d2, d3, d4⟩ := hlc j y hy
  rw [hla] at c1
  have cb := bytes s0 s1 s2 s3 s4 la ln lc L (some ⟨b, off, none⟩) n cap S i j w hA.lead hA.secs
  have cz := sized s0 s1 s2 s3 s4 la ln lc L (some ⟨b, off, none⟩) n cap S w hA.lead hA.secs
  go_enter Try.func3, Try.ntmps3
  go_wp2_with (fail)
  go_at_call 4
  refine cb.mono ?_
  rintro e w0 ⟨r0, rfl, rfl, hs⟩
  cases r0 with
  | false =>
    go_wp2_with (fail)
    go_ret
    exact ⟨rfl, Below.refl _ _⟩
  | true =>
  have hs := hs rfl
  have cz := cz hs
  obtain ⟨⟨e0, e1, e2, e3, e4, hln⟩, hSL, hn, hSS⟩ := hs
  go_wp2_with (fail)
  go_at_call 5
  refine cz.mono ?_
  rintro e w1 ⟨r, rfl, rfl⟩
  by_cases hr : r ≤ 1048576
  case neg =>
    go_wp2_with (fail)
    go_ret
    exact ⟨rfl, Below.refl _ _⟩
  have cs : ∀ W : World, Below w1.heap.size w1 W → Calls Try.prog 6 #[.string s0, .string s1, .string s2, .string s3, .string s4, .slice la ln lc, .slice (some ⟨b, off, none⟩) n cap] W fun e w' => ∃ la' lc' a' c' S', e = .returned (.agg #[.string s0, .string s1, .string s2, .string s3, .string s4, .slice la' ln lc', .slice a' n c']) ∧ Built W w' a' n S S' := fun W hW =>
    script_any s0 s1 s2 s3 s4 la ln lc L (some ⟨b, off, none⟩) n cap S W hn hln (hA.lead.below hW) hA.leadc (hA.secs.below hW) hA.secc (fun x hx => ⟨(hSS x hx).2.1, hA.each x hx⟩)
  clear cb cz
  go_wp2_with (fail)
  refine (cs _ (Below.refl _ _)).mono ?_
  rintro e wA ⟨la1, lc1, a1, k1, S1, rfl, HB1⟩
  obtain ⟨nb1, rfl, hnb1, HH1⟩ := HB1.at' (by omega)
  have H1 : Hid (Half wA nb1 n n S S1) := HH1
  have K1 : Hid (S1.map key = S.map key) := HB1.same
  have B1 : Hid (Below w1.heap.size w1 wA) := HB1.below
  clear HB1 HH1 hnb1
  go_wp2_with (fail)
  refine (cs _ (B1.out.alloc B1.out.size _)).mono ?_
  rintro e wB ⟨la2, lc2, a2, k2, S2, rfl, HB2⟩
  obtain ⟨nb2, rfl, hnb2, HH2⟩ := HB2.at' (by omega)
  have hnb2' : wA.heap.size + 1 ≤ nb2 := by simpa using hnb2
  obtain ⟨bf, xc, x2, f1, f2, f3, f4, f5, f6, f7, f8, f9, f10⟩ := flip_facts (V2 := #[.string s0, .string s1, .string s2, .string s3, .string s4, .slice la2 ln lc2, .slice (some ⟨nb2, 0, none⟩) n k2]) B1.out H1.out HB2 hnb2' HH2 hx hy hjn
  have K2 : Hid (S2.map key = S.map key) := HB2.same
  have HF : Hid (∀ v : Bool, SecsAt ((wB.setCell ⟨bf, j * 5 + 1, none⟩ (.bool v)).alloc (.cells #[.string s0, .string s1, .string s2, .string s3, .string s4, .slice la2 ln lc2, .slice (some ⟨nb2, 0, none⟩) n k2] 33)) (some ⟨nb1, 0, none⟩) n S1 ∧
        SecsAt ((wB.setCell ⟨bf, j * 5 + 1, none⟩ (.bool v)).alloc (.cells #[.string s0, .string s1, .string s2, .string s3, .string s4, .slice la2 ln lc2, .slice (some ⟨nb2, 0, none⟩) n k2] 33)) (some ⟨nb2, 0, none⟩) n (flipS S2 i j x2 y v) ∧
        ((wB.setCell ⟨bf, j * 5 + 1, none⟩ (.bool v)).alloc (.cells #[.string s0, .string s1, .string s2, .string s3, .string s4, .slice la2 ln lc2, .slice (some ⟨nb2, 0, none⟩) n k2] 33)).heap[wB.heap.size]? = some (.cells #[.string s0, .string s1, .string s2, .string s3, .string s4, .slice la2 ln lc2, .slice (some ⟨nb2, 0, none⟩) n k2] 33 (0, 0)) ∧
        Below w1.heap.size w1 ((wB.setCell ⟨bf, j * 5 + 1, none⟩ (.bool v)).alloc (.cells #[.string s0, .string s1, .string s2, .string s3, .string s4, .slice la2 ln lc2, .slice (some ⟨nb2, 0, none⟩) n k2] 33))) := f10
  have HX2 : Hid (S2[i]? = some x2) := f8
  have HY2 : Hid (x2.lines[j]? = some y) := f9
  have hBo : Hid (Below w1.heap.size w1 wB) := f7
  have gW : ∀ (V : Array Value) (v : Bool), ((wB.setCell ⟨bf, j * 5 + 1, none⟩ (.bool v)).alloc (.cells V 33)).heap[wA.heap.size]? = some (.cells #[.string s0, .string s1, .string s2, .string s3, .string s4, .slice la1 ln lc1, .slice (some ⟨nb1, 0, none⟩) n k1] 33 (0, 0)) := fun V v =>
    (Below.heap_alloc (wB.setCell ⟨bf, j * 5 + 1, none⟩ (.bool v)) _ _ (by have := (Array.getElem?_eq_some_iff.1 f6).1; simpa using this)).trans ((heap_setCell_other _ ⟨bf, j * 5 + 1, none⟩ wA.heap.size _ (by show wA.heap.size ≠ bf; omega)).trans f6)
  have g0 := fun V v => (row7 (gW V v)).1
  have g1 := fun V v => (row7 (gW V v)).2.1
  have g2 := fun V v => (row7 (gW V v)).2.2.1
  have g3 := fun V v => (row7 (gW V v)).2.2.2.1
  have g4 := fun V v => (row7 (gW V v)).2.2.2.2.1
  have g5 := fun V v => (row7 (gW V v)).2.2.2.2.2.1
  have g6 := fun V v => (row7 (gW V v)).2.2.2.2.2.2.1
  have gA : wA.heap.size < wB.heap.size := (Array.getElem?_eq_some_iff.1 f6).1
  have n1 : wA.heap.size ≠ wB.heap.size := by omega
  have n2 : wA.heap.size ≠ bf := by omega
  have n3 : bf ≠ wB.heap.size := by omega
  have n4 : nb2 ≠ wB.heap.size := by omega
  have n5 : b ≠ wB.heap.size := by have := f7.size; omega
  have n6 : b2 ≠ wB.heap.size := by have := f7.size; omega
  have n7 : wB.heap.size ≠ bf := by omega
  have al : ∀ V : Array Value, Below wB.heap.size wB (wB.alloc (.cells V 33)) := fun V => (Below.refl _ _).alloc (Nat.le_refl _) _
  have c1' : ∀ V : Array Value, (wB.alloc (.cells V 33)).cell? ⟨b, off + i * 2 + 1, none⟩ = some (.slice (some ⟨b2, off2, none⟩) x.ln x.lc) := fun V => ((al V).cell (p := ⟨b, off + i * 2 + 1, none⟩) (Nat.lt_of_lt_of_le hb f7.size)).trans ((f7.cell (p := ⟨b, off + i * 2 + 1, none⟩) hb).trans c1)
  have d1' : ∀ V : Array Value, (wB.alloc (.cells V 33)).cell? ⟨b2, off2 + j * 5 + 1, none⟩ = some (.bool y.2.1) := fun V => ((al V).cell (p := ⟨b2, off2 + j * 5 + 1, none⟩) (Nat.lt_of_lt_of_le hb2 f7.size)).trans ((f7.cell (p := ⟨b2, off2 + j * 5 + 1, none⟩) hb2).trans d1)
  have f1' : ∀ V : Array Value, (wB.alloc (.cells V 33)).cell? ⟨nb2, i * 2 + 1, none⟩ = some (.slice (some ⟨bf, 0, none⟩) x.ln xc) := fun V => ((al V).cell (p := ⟨nb2, i * 2 + 1, none⟩) (show nb2 < wB.heap.size by omega)).trans f1
  have f4' : ∀ V : Array Value, (wB.alloc (.cells V 33)).cell? ⟨bf, j * 5 + 1, none⟩ = some (.bool y.2.1) := fun V => ((al V).cell (p := ⟨bf, j * 5 + 1, none⟩) f3).trans f4
  have f5' : ∀ (V : Array Value) (k : Nat), (wB.alloc (.cells V 33)).frozen? ⟨bf, k, none⟩ = false := fun V k => (frozen_alloc (.cells V 33) f3).trans (f5 k)
  clear al gW f1 f4 f5
  clear HB2 HH2 f6 f7 f8 f9 f10 hnb2 hnb2'
  go_wp2_with (fail)
  have hk : ∀ x ∈ S, x.ln ≤ 1048576 := fun x hx => (hSS x hx).2.1
  have hk1 := ln_of_key K1.out hk
  have hk2 := ln_flip (j := j) (y := y) (v := !y.2.1) HX2.out (ln_of_key K2.out hk)
  have hlaw : Hid (Law (runs y.1) y.2.1 (ldS S1) (obS S1) (ldS (flipS S2 i j x2 y (!y.2.1))) (obS (flipS S2 i j x2 y (!y.2.1))) (runS S)) :=
    law hn hA.secs.len (fun x hx => by have := (hA.secs.lines x hx).len; have := hk x hx; omega) K1.out K2.out HX2.out HY2.out
  obtain ⟨F1, F2, F3, F4⟩ := HF.out (!y.2.1)
  clear HF g0 g1 g2 g3 g4 g5 g6 c1' d1' f1' f4' f5'
  generalize (wB.setCell ⟨bf, j * 5 + 1, none⟩ (.bool !y.2.1)).alloc (.cells #[.string s0, .string s1, .string s2, .string s3, .string s4, .slice la2 ln lc2, .slice (some ⟨nb2, 0, none⟩) n k2] 33) = WF at F1 F2 F3 F4 ⊢
  refine (counts s0 s1 s2 s3 s4 la1 ln lc1 (some ⟨nb1, 0, none⟩) n k1 S1 WF hn F1 hk1).mono ?_
  rintro e wC ⟨rfl, bC⟩
  obtain ⟨g0, g1, g2, g3, g4, g5, g6, gf⟩ := row7 ((bC.block _ (Array.getElem?_eq_some_iff.1 F3).1).trans F3)
  have F2C : Hid (SecsAt wC (some ⟨nb2, 0, none⟩) n (flipS S2 i j x2 y (!y.2.1))) := F2.below bC
  have BC : Hid (Below w1.heap.size w1 wC) := F4.trans (bC.mono F4.size)
  clear F1 F2 F3 F4 bC
  go_wp2_with (fail)
  refine (counts s0 s1 s2 s3 s4 la2 ln lc2 (some ⟨nb2, 0, none⟩) n k2 _ wC hn F2C.out hk2).mono ?_
  rintro e wD ⟨rfl, bD⟩
  have BD : Hid (Below w1.heap.size w1 wD) := BC.out.trans (bD.mono BC.out.size)
  clear bD g0 g1 g2 g3 g4 g5 g6 gf
  go_wp2_with (fail)
  refine (running (some ⟨b, off, none⟩) n cap S wD hn (hA.secs.below BD.out) hk).mono ?_
  rintro e wE ⟨rfl, rfl⟩
  have c1' := (BD.out.cell (p := ⟨b, off + i * 2 + 1, none⟩) hb).trans c1
  have d0' := (BD.out.cell (p := ⟨b2, off2 + j * 5, none⟩) hb2).trans d0
  have cr := runs9 y.1
  generalize ((ldS (flipS S2 i j x2 y (!y.2.1)) : Nat) : Int) = C at hlaw ⊢
  generalize ((obS (flipS S2 i j x2 y (!y.2.1)) : Nat) : Int) = D at hlaw ⊢
  generalize ((ldS S1 : Nat) : Int) = A at hlaw ⊢
  generalize ((obS S1 : Nat) : Int) = B at hlaw ⊢
  generalize ((runS S : Nat) : Int) = R at hlaw ⊢
  obtain ⟨l0, l1, l2, l3, l4, l5, l6, l7, l8, l9⟩ := hlaw.out
  have bA : A ≤ 1099511627776 := by omega
  have bB : B ≤ 1099511627776 := by omega
  clear hlaw
  cases hrun : runs y.1 with
  | false =>
    obtain ⟨rfl, rfl⟩ := l7 hrun
    rw [hrun] at cr
    clear l7 l8 l9 l6
    go_wp2_with (fail)
    refine (cr _).mono ?_
    rintro e wF ⟨rfl, rfl⟩
    go_wp2_with (fail)
    all_goals first
      | (go_ret; exact ⟨rfl, BD.out⟩)
      | omega
  | true =>
    rw [hrun] at cr
    cases ho : y.2.1 with
    | true =>
      obtain ⟨rfl, rfl⟩ := l8 hrun ho
      clear l7 l8 l9
      go_wp2_with (fail)
      refine (cr _).mono ?_
      rintro e wF ⟨rfl, rfl⟩
      go_wp2_with (fail)
      all_goals first
        | (go_ret; exact ⟨rfl, BD.out⟩)
        | omega
    | false =>
      obtain ⟨rfl, rfl⟩ := l9 hrun ho
      clear l7 l8 l9
      go_wp2_with (fail)
      refine (cr _).mono ?_
      rintro e wF ⟨rfl, rfl⟩
      go_wp2_with (fail)
      all_goals first
        | (go_ret; exact ⟨rfl, BD.out⟩)
        | omega
set_option maxRecDepth 100000 in
set_option maxHeartbeats 4000000 in
theorem law_oi (s0 s1 s2 s3 s4 : ByteArray) (la : Option Addr) (ln lc : Nat) (L : List Ln) (a : Option Addr) (n cap : Nat) (S : List Sc) (i j : Int) (w : World)
    (hA : Args w la ln lc L a n cap S) (hi : i < 0 ∨ (n : Int) ≤ i) :
    Calls Try.prog 3 #[.string s0, .string s1, .string s2, .string s3, .string s4, .slice la ln lc, .slice a n cap, .int .i64 i, .int .i64 j] w (Fin w) := by
  have cb := bytes s0 s1 s2 s3 s4 la ln lc L a n cap S i j w hA.lead hA.secs
  have cz := sized s0 s1 s2 s3 s4 la ln lc L a n cap S w hA.lead hA.secs
  go_enter Try.func3, Try.ntmps3
  go_wp2_with (fail)
  go_at_call 4
  refine cb.mono ?_
  rintro e w0 ⟨r0, rfl, rfl, hs⟩
  cases r0 with
  | false =>
    go_wp2_with (fail)
    go_ret
    exact ⟨rfl, Below.refl _ _⟩
  | true =>
  have cz := cz (hs rfl)
  clear hs
  go_wp2_with (fail)
  go_at_call 5
  refine cz.mono ?_
  rintro e w1 ⟨r, rfl, rfl⟩
  clear cb cz hA
  by_cases h0 : i < 0
  · go_wp2_with (fail)
    all_goals first
      | (go_ret; exact ⟨rfl, Below.refl _ _⟩)
      | omega
  · have h1 : (n : Int) ≤ i := by omega
    clear hi
    go_wp2_with (fail)
    all_goals first
      | (go_ret; exact ⟨rfl, Below.refl _ _⟩)
      | omega

set_option maxRecDepth 100000 in
set_option maxHeartbeats 4000000 in
theorem law_oj (s0 s1 s2 s3 s4 : ByteArray) (la : Option Addr) (ln lc : Nat) (L : List Ln) (b off n cap : Nat) (S : List Sc) (i : Nat) (j : Int) (w : World) (x : Sc)
    (hA : Args w la ln lc L (some ⟨b, off, none⟩) n cap S) (hx : S[i]? = some x) (hin : i < n) (hc : SCells w b off S) (hj : j < 0 ∨ (x.ln : Int) ≤ j) :
    Calls Try.prog 3 #[.string s0, .string s1, .string s2, .string s3, .string s4, .slice la ln lc, .slice (some ⟨b, off, none⟩) n cap, .int .i64 i, .int .i64 j] w (Fin w) := by
  have hinI : (i : Int) < (n : Int) := by omega
  have hi0 : (0 : Int) ≤ (i : Int) := by omega
  obtain ⟨c0, c1⟩ := hc i x hx
  have cb := bytes s0 s1 s2 s3 s4 la ln lc L (some ⟨b, off, none⟩) n cap S i j w hA.lead hA.secs
  have cz := sized s0 s1 s2 s3 s4 la ln lc L (some ⟨b, off, none⟩) n cap S w hA.lead hA.secs
  go_enter Try.func3, Try.ntmps3
  go_wp2_with (fail)
  go_at_call 4
  refine cb.mono ?_
  rintro e w0 ⟨r0, rfl, rfl, hs⟩
  cases r0 with
  | false =>
    go_wp2_with (fail)
    go_ret
    exact ⟨rfl, Below.refl _ _⟩
  | true =>
  have cz := cz (hs rfl)
  clear hs
  go_wp2_with (fail)
  go_at_call 5
  refine cz.mono ?_
  rintro e w1 ⟨r, rfl, rfl⟩
  clear cb cz hA hc hx
  by_cases hr : r ≤ 1048576
  case neg =>
    go_wp2_with (fail)
    go_ret
    exact ⟨rfl, Below.refl _ _⟩
  by_cases h0 : j < 0
  · clear hj
    go_wp2_with (fail)
    all_goals first
      | (go_ret; exact ⟨rfl, Below.refl _ _⟩)
      | omega
  · have h1 : (x.ln : Int) ≤ j := by omega
    clear hj
    go_wp2_with (fail)
    all_goals first
      | (go_ret; exact ⟨rfl, Below.refl _ _⟩)
      | omega

theorem law_any (s0 s1 s2 s3 s4 : ByteArray) (la : Option Addr) (ln lc : Nat) (L : List Ln) (a : Option Addr) (n cap : Nat) (S : List Sc) (i j : Int) (w : World)
    (hA : Args w la ln lc L a n cap S) :
    Calls Try.prog 3 #[.string s0, .string s1, .string s2, .string s3, .string s4, .slice la ln lc, .slice a n cap, .int .i64 i, .int .i64 j] w (Fin w) := by
  by_cases hi : i < 0 ∨ (n : Int) ≤ i
  · exact law_oi s0 s1 s2 s3 s4 la ln lc L a n cap S i j w hA hi
  obtain ⟨i, rfl⟩ : ∃ k : Nat, i = (k : Int) := ⟨i.toNat, by omega⟩
  have hin : i < n := by omega
  obtain ⟨x, hx⟩ : ∃ x, S[i]? = some x := ⟨_, List.getElem?_eq_getElem (show i < S.length by have := hA.secs.len; omega)⟩
  obtain ⟨b, off, rfl, hb, hc⟩ := hA.secs.at' (by omega)
  by_cases hj : j < 0 ∨ (x.ln : Int) ≤ j
  · exact law_oj s0 s1 s2 s3 s4 la ln lc L b off n cap S i j w x hA hx hin hc hj
  obtain ⟨j, rfl⟩ : ∃ k : Nat, j = (k : Int) := ⟨j.toNat, by omega⟩
  have hjn : j < x.ln := by omega
  have hL := hA.secs.lines x (List.mem_of_getElem? hx)
  obtain ⟨y, hy⟩ : ∃ y, x.lines[j]? = some y := ⟨_, List.getElem?_eq_getElem (show j < x.lines.length by have := hL.len; omega)⟩
  obtain ⟨b2, off2, hla, hb2, hlc⟩ := hL.at' (by omega)
  exact law_in s0 s1 s2 s3 s4 la ln lc L b off n cap S i j w x y b2 off2 hA hx hy hin hjn hb hc hla hb2 hlc
end Go.Proofs.Qxb6627325a
