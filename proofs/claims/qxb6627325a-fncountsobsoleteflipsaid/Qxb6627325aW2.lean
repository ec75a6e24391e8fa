import Derived.Test.Qxb6627325aD1
namespace Go.Proofs.Qxb6627325a
open Go.RowKit

def key (x : Sc) : ByteArray × Nat × List Ln := (x.name, x.ln, x.lines)

/-- The row of sections nb in the making: the first k are laid (T). -/
structure Half (w : World) (nb n k : Nat) (S T : List Sc) : Prop where
  row : ∃ cur : Array Value, w.heap[nb]? = some (.cells cur 41 (0, 0)) ∧ cur.size = n * 2 ∧ ∀ (j : Nat) (x : Sc), T[j]? = some x → cur[j * 2]? = some (.string x.name) ∧ cur[j * 2 + 1]? = some (.slice x.la x.ln x.lc)
  len : T.length = k
  same : T.map key = (S.take k).map key
  own : ∀ x ∈ T, x.ln = x.lines.length ∧ (0 < x.ln → ∃ b, x.la = some ⟨b, 0, none⟩ ∧ nb < b ∧ PartRow w b x.ln x.ln x.lines)
  pw : T.Pairwise fun x y => ∀ b b', 0 < x.ln → 0 < y.ln → x.la = some ⟨b, 0, none⟩ → y.la = some ⟨b', 0, none⟩ → b < b'

theorem PartRow.lt {w : World} {nb n k : Nat} {L : List Ln} (h : PartRow w nb n k L) : nb < w.heap.size := by
  obtain ⟨cur, h1, _⟩ := h
  exact (Array.getElem?_eq_some_iff.1 h1).1
theorem PartRow.block {w w' : World} {nb n k : Nat} {L : List Ln} (h : PartRow w nb n k L) (e : w'.heap[nb]? = w.heap[nb]?) : PartRow w' nb n k L := by
  obtain ⟨cur, h1, h2⟩ := h
  exact ⟨cur, e.trans h1, h2⟩
theorem PartRow.later {w w' : World} {nb n k : Nat} {L : List Ln} (h : PartRow w nb n k L) (hB : Below w.heap.size w w') : PartRow w' nb n k L := h.block (hB.block _ h.lt)

theorem Half.known {w : World} {nb n k : Nat} {S T : List Sc} (h : Half w nb n k S T) (hk : k < n) :
    ∃ u0 u1, w.cell? ⟨nb, k * 2, none⟩ = some u0 ∧ w.cell? ⟨nb, k * 2 + 1, none⟩ = some u1 ∧ (∀ i, w.frozen? ⟨nb, i, none⟩ = false) ∧ nb < w.heap.size := by
  obtain ⟨cur, h1, h2, h3⟩ := h.row
  refine ⟨cur[k * 2], cur[k * 2 + 1], ?_, ?_, fun i => frozen_row h1 i, (Array.getElem?_eq_some_iff.1 h1).1⟩ <;> rw [cell_row h1, Array.getElem?_eq_getElem]

theorem Half.later {w w' : World} {nb n k : Nat} {S T : List Sc} (h : Half w nb n k S T) (hB : Below w.heap.size w w') : Half w' nb n k S T := by
  obtain ⟨⟨cur, h1, h2, h3⟩, hl, hs, ho, hp⟩ := h
  refine ⟨⟨cur, (hB.block _ (Array.getElem?_eq_some_iff.1 h1).1).trans h1, h2, h3⟩, hl, hs, fun x hx => ⟨(ho x hx).1, fun h0 => ?_⟩, hp⟩
  obtain ⟨b, e, hb, hr⟩ := (ho x hx).2 h0
  exact ⟨b, e, hb, hr.later hB⟩

theorem Half.step {wr w1 : World} {nb n k : Nat} {S T : List Sc} {x : Sc} {a' : Option Addr} {c' : Nat} (h : Half wr nb n k S T) (hk : k < n) (hx : S[k]? = some x) (hlen : x.ln = x.lines.length)
    (hc : Copied wr w1 a' x.ln x.lines) :
    Half ((w1.setCell ⟨nb, k * 2, none⟩ (.string x.name)).setCell ⟨nb, k * 2 + 1, none⟩ (.slice a' x.ln c')) nb n (k + 1) S (T ++ [⟨x.name, a', x.ln, c', x.lines⟩]) := by
  obtain ⟨_, hB, hown⟩ := hc
  obtain ⟨⟨cur, h1, h2, h3⟩, hl, hs, ho, hp⟩ := h.later hB
  have hnb : nb < wr.heap.size := by
    obtain ⟨cur', h1', _⟩ := h.row
    exact (Array.getElem?_eq_some_iff.1 h1').1
  have hblk : ∀ b, b ≠ nb → ((w1.setCell ⟨nb, k * 2, none⟩ (.string x.name)).setCell ⟨nb, k * 2 + 1, none⟩ (.slice a' x.ln c')).heap[b]? = w1.heap[b]? := fun b hb =>
    (heap_setCell_other _ ⟨nb, k * 2 + 1, none⟩ b _ hb).trans (heap_setCell_other _ ⟨nb, k * 2, none⟩ b _ hb)
  refine ⟨⟨putAll cur (k * 2) [.string x.name, .slice a' x.ln c'], heap_setCells_same nb 41 [.string x.name, .slice a' x.ln c'] (k * 2) w1 cur h1, by rw [size_putAll, h2], fun j y hy => ?_⟩, by simp [hl], ?_, ?_, ?_⟩
  · rw [List.getElem?_append] at hy
    by_cases hj : j < T.length
    · rw [if_pos hj] at hy
      rw [putAll_out _ _ _ _ (by left; omega), putAll_out _ _ _ _ (by left; omega)]
      exact h3 j y hy
    · rw [if_neg hj] at hy
      have e : j = k := by
        have := (List.getElem?_eq_some_iff.1 hy).1
        simp at this; omega
      subst e
      rw [show j - T.length = 0 by omega] at hy
      simp at hy
      subst hy
      refine ⟨?_, ?_⟩
      · rw [putAll_in _ _ _ _ (by omega) (by simp) (by simp; omega)]; simp
      · rw [putAll_in _ _ _ _ (by omega) (by simp) (by simp; omega)]; simp
  · rw [List.map_append, hs, List.take_add_one, hx, List.map_append]
    rfl
  · intro y hy
    rw [List.mem_append] at hy
    rcases hy with hy | hy
    · refine ⟨(ho y hy).1, fun h0 => ?_⟩
      obtain ⟨b, e, hb, hr⟩ := (ho y hy).2 h0
      exact ⟨b, e, hb, hr.block (hblk b (by omega))⟩
    · simp at hy
      subst hy
      refine ⟨hlen, fun h0 => ?_⟩
      obtain ⟨b, e, hb, hr⟩ := hown h0
      exact ⟨b, e, by omega, hr.block (hblk b (by omega))⟩
  · rw [List.pairwise_append]
    refine ⟨hp, by simp, fun y hy z hz b b' h0 h0' e e' => ?_⟩
    simp at hz
    subst hz
    obtain ⟨b2, e2, hb2, hr2⟩ := (h.own y hy).2 h0
    rw [e] at e2; cases e2
    obtain ⟨b3, e3, hb3, _⟩ := hown h0'
    simp only at e'
    rw [e'] at e3; cases e3
    have := hr2.lt
    omega

theorem Half.drew {w : World} {nb n k : Nat} {S T : List Sc} (h : Half w nb n k S T) : Half w.drew nb n k S T := h.later (Below.refl _ _).drew

theorem Try.info41 : (Try.prog.info? 41).map (fun i => (i.zero, i.size, i.bytes)) = some (some (.agg #[.string ⟨#[]⟩, .slice none 0 0]), 2, 40) := by kernel_rfl

/-- What zzCountsScript leaves: new sections S' that read as S. -/
structure Built (w w' : World) (a : Option Addr) (n : Nat) (S S' : List Sc) : Prop where
  below : Below w.heap.size w w'
  same : S'.map key = S.map key
  len : n = S'.length
  at' : 0 < n → ∃ nb, a = some ⟨nb, 0, none⟩ ∧ w.heap.size ≤ nb ∧ Half w' nb n n S S'

abbrev z33 : Array Value := #[.string ⟨#[]⟩, .string ⟨#[]⟩, .string ⟨#[]⟩, .string ⟨#[]⟩, .string ⟨#[]⟩, .slice none 0 0, .slice none 0 0]

theorem row7 {w : World} {b t : Nat} {a0 a1 a2 a3 a4 a5 a6 : Value} (h : w.heap[b]? = some (.cells #[a0, a1, a2, a3, a4, a5, a6] t (0, 0))) :
    w.cell? ⟨b, 0, none⟩ = some a0 ∧ w.cell? ⟨b, 1, none⟩ = some a1 ∧ w.cell? ⟨b, 2, none⟩ = some a2 ∧ w.cell? ⟨b, 3, none⟩ = some a3 ∧ w.cell? ⟨b, 4, none⟩ = some a4 ∧ w.cell? ⟨b, 5, none⟩ = some a5 ∧ w.cell? ⟨b, 6, none⟩ = some a6 ∧ (∀ k, w.frozen? ⟨b, k, none⟩ = false) := by
  refine ⟨?_, ?_, ?_, ?_, ?_, ?_, ?_, fun k => frozen_row h k⟩ <;> rw [cell_row h] <;> rfl

theorem Half.start (w : World) (n : Nat) (S : List Sc) (MC : Array Value) (h : MC.size = n * 2) : Half (w.alloc (.cells MC 41)) w.heap.size n 0 S [] :=
  ⟨⟨MC, heap_alloc_new w _, h, fun j x hj => by simp at hj⟩, rfl, rfl, fun x hx => absurd hx List.not_mem_nil, List.Pairwise.nil⟩

theorem below2 {B : Nat} {w w' : World} {nb o : Nat} {v0 v1 : Value} (h : Below B w w') (hb : B ≤ nb) :
    Below B w ((w'.setCell ⟨nb, o, none⟩ v0).setCell ⟨nb, o + 1, none⟩ v1) :=
  (h.setCell (p := ⟨nb, o, none⟩) hb _).setCell (p := ⟨nb, o + 1, none⟩) hb _

theorem keep2 {w' : World} {nb o b : Nat} {v0 v1 : Value} (hb : b ≠ nb) : ((w'.setCell ⟨nb, o, none⟩ v0).setCell ⟨nb, o + 1, none⟩ v1).heap[b]? = w'.heap[b]? :=
  (heap_setCell_other _ ⟨nb, o + 1, none⟩ b _ hb).trans (heap_setCell_other _ ⟨nb, o, none⟩ b _ hb)

theorem lines_from (a : Option Addr) (n cap : Nat) (L : List Ln) (w : World) (hn : n ≤ 1048576) (hL : LinesAt w a n L) (hc : a = none → cap = 0) (W : World) (hW : Below w.heap.size w W) :
    Calls Try.prog 10 #[.slice a n cap] W fun e w' => ∃ a' c', e = .returned (.slice a' n c') ∧ Copied w w' a' n L :=
  (lines_any a n cap L W hn (hL.below hW) hc).mono fun e w' ⟨a', c', h1, h2, h3, h4⟩ => ⟨a', c', h1, h2, hW.trans (h3.mono hW.size), fun h0 => by
    obtain ⟨b, e, hb, hr⟩ := h4 h0
    exact ⟨b, e, Nat.le_trans hW.size hb, hr⟩⟩

def set7 (w : World) (g : Nat) (v0 v1 v2 v3 v4 v5 v6 : Value) : World :=
  ((((((w.setCell ⟨g, 0, none⟩ v0).setCell ⟨g, 1, none⟩ v1).setCell ⟨g, 2, none⟩ v2).setCell ⟨g, 3, none⟩ v3).setCell ⟨g, 4, none⟩ v4).setCell ⟨g, 5, none⟩ v5).setCell ⟨g, 6, none⟩ v6
theorem keep7 {w : World} {g b : Nat} {v0 v1 v2 v3 v4 v5 v6 : Value} (hb : b ≠ g) : (set7 w g v0 v1 v2 v3 v4 v5 v6).heap[b]? = w.heap[b]? :=
  (heap_setCell_other _ ⟨g, 6, none⟩ b _ hb).trans <| (heap_setCell_other _ ⟨g, 5, none⟩ b _ hb).trans <| (heap_setCell_other _ ⟨g, 4, none⟩ b _ hb).trans <| (heap_setCell_other _ ⟨g, 3, none⟩ b _ hb).trans <|
  (heap_setCell_other _ ⟨g, 2, none⟩ b _ hb).trans <| (heap_setCell_other _ ⟨g, 1, none⟩ b _ hb).trans (heap_setCell_other _ ⟨g, 0, none⟩ b _ hb)
theorem below7 {B : Nat} {w w' : World} {g : Nat} {v0 v1 v2 v3 v4 v5 v6 : Value} (h : Below B w w') (hb : B ≤ g) : Below B w (set7 w' g v0 v1 v2 v3 v4 v5 v6) :=
  ((((((h.setCell (p := ⟨g, 0, none⟩) hb _).setCell (p := ⟨g, 1, none⟩) hb _).setCell (p := ⟨g, 2, none⟩) hb _).setCell (p := ⟨g, 3, none⟩) hb _).setCell (p := ⟨g, 4, none⟩) hb _).setCell (p := ⟨g, 5, none⟩) hb _).setCell (p := ⟨g, 6, none⟩) hb _

theorem Half.blocks {w w' : World} {nb n k : Nat} {S T : List Sc} (h : Half w nb n k S T) (hB : ∀ b, nb ≤ b → w'.heap[b]? = w.heap[b]?) : Half w' nb n k S T := by
  obtain ⟨⟨cur, h1, h2, h3⟩, hl, hs, ho, hp⟩ := h
  refine ⟨⟨cur, (hB _ (Nat.le_refl _)).trans h1, h2, h3⟩, hl, hs, fun x hx => ⟨(ho x hx).1, fun h0 => ?_⟩, hp⟩
  obtain ⟨b, e, hb, hr⟩ := (ho x hx).2 h0
  exact ⟨b, e, hb, hr.block (hB _ (by omega))⟩

theorem built_fin {w wr w6 : World} {n ln : Nat} {S T : List Sc} {L : List Ln} {a' : Option Addr} {v0 v1 v2 v3 v4 v5 v6 : Value} (HN : n = S.length) (HB : Below w.heap.size w wr) (_hsw : w.heap.size < wr.heap.size) (HA : Half wr (w.heap.size + 1) n n S T) (HC : Copied wr w6 a' ln L) :
    Built w (set7 w6 w.heap.size v0 v1 v2 v3 v4 v5 v6) (some ⟨w.heap.size + 1, 0, none⟩) n S T :=
  ⟨below7 (HB.trans (HC.2.1.mono HB.size)) (Nat.le_refl _), by rw [HA.same, HN, List.take_length], by rw [HA.len], fun _ => ⟨_, rfl, by omega, (HA.later HC.2.1).blocks fun b hb => keep7 (by omega)⟩⟩

set_option maxHeartbeats 2000000 in
set_option maxRecDepth 100000 in
theorem script_some (sub path frm to com : ByteArray) (la : Option Addr) (ln lc : Nat) (L : List Ln) (a : Addr) (n cap : Nat) (S : List Sc) (w : World) (hn : n ≤ 1048576) (hln : ln ≤ 1048576)
    (hL : LinesAt w la ln L) (hlc : la = none → lc = 0) (hS : SecsAt w (some a) n S) (hSc : ∀ x ∈ S, x.ln ≤ 1048576 ∧ (x.la = none → x.lc = 0)) :
    Calls Try.prog 6 #[.string sub, .string path, .string frm, .string to, .string com, .slice la ln lc, .slice (some a) n cap] w fun e w' => ∃ la' lc' a' c' S', e = .returned (.agg #[.string sub, .string path, .string frm, .string to, .string com, .slice la' ln lc', .slice a' n c']) ∧ Built w w' a' n S S' := by
  obtain ⟨HN', ha, hlines⟩ := hS
  have HN : Hid (n = S.length) := HN'
  clear HN'
  obtain ⟨i0, hinf, hz0, hz1, hz2⟩ := info_parts Try.info41
  obtain ⟨MC, hMC, hmk⟩ : ∃ MC : Array Value, MC.size = n * 2 ∧ ∀ w : World, (Instr.makeSlice 31 (.int .i64 (n : Int)) (.int .i64 (n : Int))).run Try.prog w = .ok (.slice (some ⟨w.heap.size, 0, none⟩) n n) (w.alloc (.cells MC 41)) := by
    refine ⟨madeCells (Value.agg #[.string ⟨#[]⟩, .slice none 0 0]).cells (n * 2), by rw [size_madeCells], fun w => ?_⟩
    have := run_make (P := Try.prog) w 31 41 i0 _ Try.underlying31 hinf hz0 .i64 .i64 (n : Int) (n : Int) (by omega) (Int.le_refl _) (by rw [hz2]; omega) (by omega)
    rw [hz1] at this
    exact this
  have hnil := fun (W : World) (x : Option Addr) (p q : Nat) => run_neq_slice_nil_any (P := Try.prog) W 23 27 x p q 0 0 Try.underlying23
  clear hinf hz0 hz1 hz2
  have H0 : Hid (Half ((w.alloc (.cells z33 33)).alloc (.cells MC 41)) (w.heap.size + 1) n 0 S []) := by
    have := Half.start (w.alloc (.cells z33 33)) n S MC hMC
    rw [show (w.alloc (.cells z33 33)).heap.size = w.heap.size + 1 by simp] at this
    exact this
  have hB0 : Hid (Below w.heap.size w ((w.alloc (.cells z33 33)).alloc (.cells MC 41))) := ((Below.refl _ _).alloc (Nat.le_refl _) _).alloc (by simp) _
  have hR0 : Hid (((w.alloc (.cells z33 33)).alloc (.cells MC 41)).heap[w.heap.size]? = some (.cells z33 33 (0, 0))) := by
    show _ = _
    rw [Below.heap_alloc _ _ _ (by simp)]
    exact heap_alloc_new w _
  clear hMC
  go_enter Try.func6, Try.ntmps6
  go_wp2
  go_loopw [16] (fun i wr => ∃ (k : Nat) (T : List Sc), k ≤ n ∧ i = .int .i64 k ∧ Hid (Below w.heap.size w wr) ∧ Hid (wr.heap[w.heap.size]? = some (.cells z33 33 (0, 0))) ∧ Hid (Half wr (w.heap.size + 1) n k S T)) (fun i _ => n - (intOf i).toNat)
  case atStart => exact ⟨0, [], Nat.zero_le _, rfl, hB0, hR0, H0⟩
  case round =>
    obtain ⟨k, T, hk, rfl, HB, HR, HA⟩ := hrel
    clear hB0 hR0 H0
    by_cases hlt' : k < n
    · have hltI : (k : Int) < (n : Int) := by omega
      have hk0 : (0 : Int) ≤ (k : Int) := by omega
      obtain ⟨x, hx⟩ : ∃ x, S[k]? = some x := ⟨_, List.getElem?_eq_getElem (show k < S.length by have := HN.out; omega)⟩
      obtain ⟨b, off, hab, hbw, hcells⟩ := ha (by omega)
      cases hab
      have hxm : x ∈ S := List.mem_of_getElem? hx
      have cl := lines_from x.la x.ln x.lc x.lines wr (hSc x hxm).1 ((hlines x hxm).below HB.out) (hSc x hxm).2
      have hbr : b < wr.heap.size := Nat.lt_of_lt_of_le hbw HB.out.size
      obtain ⟨c0, c1⟩ := hcells.below hbw HB.out k x hx
      obtain ⟨u0, u1, v0, v1, vf, vs⟩ := HA.out.known hlt'
      have HX : Hid (S[k]? = some x) := hx
      have HXL : Hid (x.ln = x.lines.length) := (hlines x hxm).len
      have hbne : b ≠ w.heap.size + 1 := by omega
      clear hcells hx ha hlines hSc hxm
      go_wp2
      go_region_with (go_at_call 10; refine (cl _ (Below.refl _ _).drew).mono ?_; rintro e w6 ⟨a', c', rfl, HC⟩; obtain ⟨u0', u1', v0', v1', vf', vs'⟩ := (HA.out.later HC.2.1).known hlt'; have c0' := (HC.2.1.cell (p := ⟨b, off + k * 2, none⟩) hbr).trans c0; have c1' := (HC.2.1.cell (p := ⟨b, off + k * 2 + 1, none⟩) hbr).trans c1; have HC' : Hid (Copied wr w6 a' x.ln x.lines) := HC; clear HC)
      all_goals
        go_wp2
        go_roundw
        case rel => exact ⟨k + 1, _, by omega, by go_num, below2 (HB.out.trans (HC'.out.2.1.mono HB.out.size)) (by omega), (keep2 (by omega)).trans ((HC'.out.2.1.block _ (by omega)).trans HR.out), HA.out.step hlt' HX.out HXL.out HC'.out⟩
        case measure => simp [intOf]; omega
    · have hkn : k = n := by omega
      subst hkn
      have cl := lines_from la ln lc L wr hln (hL.below HB.out) hlc
      have hsw : w.heap.size < wr.heap.size := (Array.getElem?_eq_some_iff.1 HR.out).1
      go_wp2_with (fail)
      go_at_call 10
      refine (cl _ (Below.refl _ _)).mono ?_
      rintro e w6 ⟨a', c', rfl, HC⟩
      have HRn := (HC.2.1.block _ hsw).trans HR.out
      obtain ⟨r0, r1, r2, r3, r4, r5, r6, rf⟩ := row7 HRn
      have HC' : Hid (Copied wr w6 a' ln L) := HC
      clear HC HRn
      go_wp2
      refine bodyPost_ret (v := .agg #[.string sub, .string path, .string frm, .string to, .string com, .slice a' ln c', .slice (some ⟨w.heap.size + 1, 0, none⟩) k k]) (by simp [results, Try.results6, go_sem, r0, r1, r2, r3, r4, r5, r6]) rfl ⟨a', c', _, k, T, rfl, ?_⟩
      exact built_fin HN.out HB.out hsw HA.out HC'.out

set_option maxHeartbeats 2000000 in
set_option maxRecDepth 100000 in
theorem script_nil (sub path frm to com : ByteArray) (la : Option Addr) (ln lc : Nat) (L : List Ln) (w : World) (hln : ln ≤ 1048576)
    (hL : LinesAt w la ln L) (hlc : la = none → lc = 0) :
    Calls Try.prog 6 #[.string sub, .string path, .string frm, .string to, .string com, .slice la ln lc, .slice none 0 0] w fun e w' => ∃ la' lc' a' c' S', e = .returned (.agg #[.string sub, .string path, .string frm, .string to, .string com, .slice la' ln lc', .slice a' 0 c']) ∧ Built w w' a' 0 [] S' := by
  have hnil := fun (W : World) (x : Option Addr) (p q : Nat) => run_neq_slice_nil_any (P := Try.prog) W 23 27 x p q 0 0 Try.underlying23
  have cl := lines_from la ln lc L (w.alloc (.cells z33 33)) hln (hL.below ((Below.refl _ _).alloc (Nat.le_refl _) _)) hlc
  have hB0 : Hid (Below w.heap.size w (w.alloc (.cells z33 33))) := (Below.refl _ _).alloc (Nat.le_refl _) _
  have hs0 : w.heap.size < (w.alloc (.cells z33 33)).heap.size := by simp
  have HR : (w.alloc (.cells z33 33)).heap[w.heap.size]? = some (.cells z33 33 (0, 0)) := heap_alloc_new w _
  generalize hW : w.alloc (.cells z33 33) = W at cl hB0 hs0 HR
  go_enter Try.func6, Try.ntmps6
  go_wp2_with (fail)
  go_at_call 10
  refine (cl _ (Below.refl _ _)).mono ?_
  rintro e w6 ⟨a', c', rfl, HC⟩
  have HRn := (HC.2.1.block _ hs0).trans HR
  obtain ⟨r0, r1, r2, r3, r4, r5, r6, rf⟩ := row7 HRn
  have HC' : Hid (Copied W w6 a' ln L) := HC
  clear HC HRn HR cl hW
  go_wp2
  refine bodyPost_ret (v := .agg #[.string sub, .string path, .string frm, .string to, .string com, .slice a' ln c', .slice none 0 0]) (by simp [results, Try.results6, go_sem, r0, r1, r2, r3, r4, r5, r6]) rfl ⟨a', c', none, 0, [], rfl, ?_⟩
  exact ⟨below7 (hB0.out.trans (HC'.out.2.1.mono hB0.out.size)) (Nat.le_refl _), rfl, rfl, fun h => absurd h (Nat.lt_irrefl 0)⟩

theorem script_any (sub path frm to com : ByteArray) (la : Option Addr) (ln lc : Nat) (L : List Ln) (a : Option Addr) (n cap : Nat) (S : List Sc) (w : World) (hn : n ≤ 1048576) (hln : ln ≤ 1048576)
    (hL : LinesAt w la ln L) (hlc : la = none → lc = 0) (hS : SecsAt w a n S) (hcap : a = none → cap = 0) (hSc : ∀ x ∈ S, x.ln ≤ 1048576 ∧ (x.la = none → x.lc = 0)) :
    Calls Try.prog 6 #[.string sub, .string path, .string frm, .string to, .string com, .slice la ln lc, .slice a n cap] w fun e w' => ∃ la' lc' a' c' S', e = .returned (.agg #[.string sub, .string path, .string frm, .string to, .string com, .slice la' ln lc', .slice a' n c']) ∧ Built w w' a' n S S' := by
  cases a with
  | some a => exact script_some sub path frm to com la ln lc L a n cap S w hn hln hL hlc hS hSc
  | none =>
    obtain rfl := hcap rfl
    have h0 : n = 0 := by
      rcases Nat.eq_zero_or_pos n with h | h
      · exact h
      · obtain ⟨_, _, h', _⟩ := hS.at' h; cases h'
    subst h0
    obtain rfl : S = [] := List.length_eq_zero_iff.1 hS.len.symm
    exact script_nil sub path frm to com la ln lc L w hln hL hlc
end Go.Proofs.Qxb6627325a
