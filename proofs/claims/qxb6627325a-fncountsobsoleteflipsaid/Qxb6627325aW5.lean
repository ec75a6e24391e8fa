import Derived.Test.Qxb6627325aW3
namespace Go.Proofs.Qxb6627325a
open Go.RowKit

def ldL (L : List Ln) : Nat := (L.filter fun x => runs x.1 && !x.2.1).length
def obL (L : List Ln) : Nat := (L.filter fun x => runs x.1 && x.2.1).length
def ldS (S : List Sc) : Nat := (S.map fun x => ldL x.lines).sum
def obS (S : List Sc) : Nat := (S.map fun x => obL x.lines).sum

theorem ldL_step {L : List Ln} {k : Nat} {x : Ln} (h : L[k]? = some x) : ldL (L.take (k + 1)) = ldL (L.take k) + (if runs x.1 && !x.2.1 then 1 else 0) := by
  unfold ldL
  rw [List.take_add_one, h, List.filter_append, List.length_append]
  cases hr : (runs x.1 && !x.2.1) <;> simp [hr]
theorem obL_step {L : List Ln} {k : Nat} {x : Ln} (h : L[k]? = some x) : obL (L.take (k + 1)) = obL (L.take k) + (if runs x.1 && x.2.1 then 1 else 0) := by
  unfold obL
  rw [List.take_add_one, h, List.filter_append, List.length_append]
  cases hr : (runs x.1 && x.2.1) <;> simp [hr]
theorem ldS_step {S : List Sc} {k : Nat} {x : Sc} (h : S[k]? = some x) : ldS (S.take (k + 1)) = ldS (S.take k) + ldL x.lines := by
  unfold ldS
  rw [List.take_add_one, h, List.map_append, List.sum_append]
  simp
theorem obS_step {S : List Sc} {k : Nat} {x : Sc} (h : S[k]? = some x) : obS (S.take (k + 1)) = obS (S.take k) + obL x.lines := by
  unfold obS
  rw [List.take_add_one, h, List.map_append, List.sum_append]
  simp

theorem row5_new (wr w2 : World) (v0 v1 v2 v3 v4 : Value) (hB : Below (wr.alloc (.cells #[v0, v1, v2, v3, v4] 39)).heap.size (wr.alloc (.cells #[v0, v1, v2, v3, v4] 39)) w2) :
    w2.cell? ⟨wr.heap.size, 1, none⟩ = some v1 ∧ Below wr.heap.size wr w2 := by
  have h : w2.heap[wr.heap.size]? = some (.cells #[v0, v1, v2, v3, v4] 39 (0, 0)) := (hB.block _ (by simp)).trans (heap_alloc_new wr _)
  exact ⟨by rw [cell_row h]; rfl, ((Below.refl _ _).alloc (Nat.le_refl _) _).trans (hB.mono (by simp))⟩

set_option maxHeartbeats 2000000 in
set_option maxRecDepth 100000 in
theorem counts (s0 s1 s2 s3 s4 : ByteArray) (la0 : Option Addr) (ln0 lc0 : Nat) (a : Option Addr) (n cap : Nat) (S : List Sc) (w : World) (hn : n ≤ 1048576) (hS : SecsAt w a n S) (hs : ∀ x ∈ S, x.ln ≤ 1048576) :
    Calls Try.prog 7 #[.agg #[.string s0, .string s1, .string s2, .string s3, .string s4, .slice la0 ln0 lc0, .slice a n cap]] w fun e w' => e = .returned (.tuple #[.int .i64 (ldS S), .int .i64 (obS S)]) ∧ Below w.heap.size w w' := by
  obtain ⟨HN', ha, hlines⟩ := hS
  have HN : Hid (n = S.length) := HN'
  clear HN'
  go_enter Try.func7, Try.ntmps7
  go_wp2
  go_loopw [2, 3, 11] (fun l o i wr => ∃ k m p : Nat, k ≤ n ∧ m ≤ k * 1048576 ∧ p ≤ k * 1048576 ∧ l = .int .i64 m ∧ o = .int .i64 p ∧ i = .int .i64 k ∧ Hid (m = ldS (S.take k)) ∧ Hid (p = obS (S.take k)) ∧ Hid (Below w.heap.size w wr)) (fun _ _ i _ => n - (intOf i).toNat)
  case atStart => exact ⟨0, 0, 0, Nat.zero_le _, Nat.zero_le _, Nat.zero_le _, rfl, rfl, rfl, rfl, rfl, (Below.refl _ _).alloc (Nat.le_refl _) _⟩
  case round =>
    obtain ⟨k, m, p, hk, hm, hp, rfl, rfl, rfl, HM, HP, HB⟩ := hrel
    by_cases hlt' : k < n
    · have hltI : (k : Int) < (n : Int) := by omega
      have hk0 : (0 : Int) ≤ (k : Int) := by omega
      obtain ⟨x, hx⟩ : ∃ x, S[k]? = some x := ⟨_, List.getElem?_eq_getElem (show k < S.length by have := HN.out; omega)⟩
      obtain ⟨b, off, rfl, hbw, hcells⟩ := ha (by omega)
      obtain ⟨c0, c1⟩ := hcells.below hbw HB.out k x hx
      have hbr : b < wr.heap.size := Nat.lt_of_lt_of_le hbw HB.out.size
      have hbne : b ≠ wr.heap.size := by omega
      have hxm : x ∈ S := List.mem_of_getElem? hx
      obtain ⟨hln, hla⟩ := hlines x hxm
      have HL : Hid (x.ln = x.lines.length) := hln
      have hle := hs x hxm
      have HX : Hid (S[k]? = some x) := hx
      clear hcells hx ha hlines hs hln hxm
      obtain ⟨nm, la, ln, lc, LS⟩ := x
      simp only at c0 c1 hla HL hle HX
      go_wp2
      go_loopw [2, 3, 18] (fun l o i wq => ∃ j q r : Nat, j ≤ ln ∧ q ≤ m + j ∧ r ≤ p + j ∧ l = .int .i64 q ∧ o = .int .i64 r ∧ i = .int .i64 j ∧ Hid (q = m + ldL (LS.take j)) ∧ Hid (r = p + obL (LS.take j)) ∧ Hid (Below w.heap.size w wq)) (fun _ _ i _ => ln - (intOf i).toNat)
      case atStart => exact ⟨0, m, p, Nat.zero_le _, Nat.le_refl _, Nat.le_refl _, rfl, rfl, rfl, rfl, rfl, HB.out.alloc HB.out.size _⟩
      case round =>
        obtain ⟨j, q, r, hj, hq, hr', rfl, rfl, rfl, HQ, HRR, HB2⟩ := hrel
        by_cases hlj : j < ln
        · have hljI : (j : Int) < (ln : Int) := by omega
          have hj0 : (0 : Int) ≤ (j : Int) := by omega
          obtain ⟨y, hy⟩ : ∃ y, LS[j]? = some y := ⟨_, List.getElem?_eq_getElem (show j < LS.length by have := HL.out; omega)⟩
          obtain ⟨b2, off2, rfl, hbw2, hcells⟩ := hla (by omega)
          obtain ⟨d0, d1, d2, d3, d4⟩ := hcells.below hbw2 HB2.out j y hy
          have hbr2 : b2 < wr.heap.size := Nat.lt_of_lt_of_le hbw2 HB2.out.size
          have hbne2 : b2 ≠ wr.heap.size := by omega
          have cr : ∀ W : World, Calls Try.prog 11 #[.agg #[.int .i64 y.1, .bool y.2.1, .string y.2.2.1, .int .i64 y.2.2.2.1, .string y.2.2.2.2]] W fun e w' => e = .returned (.bool (runs y.1)) ∧ Below W.heap.size W w' := runs11 y
          have HLD : Hid (ldL (LS.take (j + 1)) = ldL (LS.take j) + (if runs y.1 && !y.2.1 then 1 else 0)) := ldL_step hy
          have HOB : Hid (obL (LS.take (j + 1)) = obL (LS.take j) + (if runs y.1 && y.2.1 then 1 else 0)) := obL_step hy
          clear hcells hy hla
          obtain ⟨y0, y1, y2, y3, y4⟩ := y
          simp only at d0 d1 d2 d3 d4 cr HLD HOB
          cases hr : runs y0 <;> rw [hr] at cr HLD HOB
          · go_wp2_with (fail)
            go_at_call 11
            refine (cr _).mono ?_
            rintro e w2 ⟨rfl, hb2⟩
            obtain ⟨g1, hb3⟩ := row5_new _ _ _ _ _ _ _ hb2
            have HB3 : Hid (Below wr.heap.size wr w2) := hb3
            clear hb2 hb3
            go_wp2_with (fail)
            go_roundw
            case rel =>
              refine ⟨j + 1, q, r, by omega, by omega, by omega, rfl, rfl, by go_num, ?_, ?_, HB2.out.trans (HB3.out.mono HB2.out.size)⟩
              · show q = _
                rw [HLD.out, HQ.out]; rfl
              · show r = _
                rw [HOB.out, HRR.out]; rfl
            case measure => simp [intOf]; omega
          · cases y1
            · go_wp2_with (fail)
              go_at_call 11
              refine (cr _).mono ?_
              rintro e w2 ⟨rfl, hb2⟩
              obtain ⟨g1, hb3⟩ := row5_new _ _ _ _ _ _ _ hb2
              have HB3 : Hid (Below wr.heap.size wr w2) := hb3
              clear hb2 hb3
              go_wp2_with (fail)
              go_roundw
              case rel =>
                refine ⟨j + 1, q + 1, r, by omega, by omega, by omega, by go_num, rfl, by go_num, ?_, ?_, HB2.out.trans (HB3.out.mono HB2.out.size)⟩
                · show q + 1 = _
                  rw [HLD.out, HQ.out]; rfl
                · show r = _
                  rw [HOB.out, HRR.out]; rfl
              case measure => simp [intOf]; omega
            · go_wp2_with (fail)
              go_at_call 11
              refine (cr _).mono ?_
              rintro e w2 ⟨rfl, hb2⟩
              obtain ⟨g1, hb3⟩ := row5_new _ _ _ _ _ _ _ hb2
              have HB3 : Hid (Below wr.heap.size wr w2) := hb3
              clear hb2 hb3
              go_wp2_with (fail)
              go_roundw
              case rel =>
                refine ⟨j + 1, q, r + 1, by omega, by omega, by omega, rfl, by go_num, by go_num, ?_, ?_, HB2.out.trans (HB3.out.mono HB2.out.size)⟩
                · show q = _
                  rw [HLD.out, HQ.out]; rfl
                · show r + 1 = _
                  rw [HOB.out, HRR.out]; rfl
              case measure => simp [intOf]; omega
        · have hjn : j = ln := by omega
          subst hjn
          go_wp2
          go_roundw
          case rel =>
            refine ⟨k + 1, q, r, by omega, by omega, by omega, rfl, rfl, by go_num, ?_, ?_, HB2⟩
            · show q = _
              rw [ldS_step HX.out, HQ.out, ← HM.out]
              show _ = m + ldL LS
              rw [List.take_of_length_le (by have := HL.out; omega)]
            · show r = _
              rw [obS_step HX.out, HRR.out, ← HP.out]
              show _ = p + obL LS
              rw [List.take_of_length_le (by have := HL.out; omega)]
          case measure => simp [intOf]; omega
    · have hkn : k = n := by omega
      subst hkn
      go_wp2
      refine bodyPost_ret (v := .tuple #[.int .i64 m, .int .i64 p]) (by simp [results, Try.results7, go_sem]) rfl ⟨?_, HB.out⟩
      rw [HM.out, HP.out, List.take_of_length_le (by have := HN.out; omega)]
end Go.Proofs.Qxb6627325a
