import Derived.Test.Qxb6627325aD1
namespace Go.Proofs.Qxb6627325a
open Go.RowKit

/-- How many of the lines run; of the sections' lines. -/
def runL (L : List Ln) : Nat := (L.filter fun x => runs x.1).length
def runS (S : List Sc) : Nat := (S.map fun x => runL x.lines).sum

theorem runL_le (L : List Ln) : runL L ≤ L.length := List.length_filter_le _ _
theorem runL_step {L : List Ln} {k : Nat} {x : Ln} (h : L[k]? = some x) : runL (L.take (k + 1)) = runL (L.take k) + (if runs x.1 then 1 else 0) := by
  unfold runL
  rw [List.take_add_one, h, List.filter_append, List.length_append]
  cases hr : runs x.1 <;> simp [hr]
theorem runS_step {S : List Sc} {k : Nat} {x : Sc} (h : S[k]? = some x) : runS (S.take (k + 1)) = runS (S.take k) + runL x.lines := by
  unfold runS
  rw [List.take_add_one, h, List.map_append, List.sum_append]
  simp

set_option maxHeartbeats 2000000 in
set_option maxRecDepth 100000 in
theorem running (a : Option Addr) (n cap : Nat) (S : List Sc) (w : World) (hn : n ≤ 1048576) (hS : SecsAt w a n S) (hs : ∀ x ∈ S, x.ln ≤ 1048576) :
    Calls Try.prog 8 #[.slice a n cap] w fun e w' => e = .returned (.int .i64 (runS S)) ∧ w' = w := by
  obtain ⟨HN', ha, hlines⟩ := hS
  have HN : Hid (n = S.length) := HN'
  clear HN'
  go_enter Try.func8, Try.ntmps8
  go_wp2
  go_loop [3, 4] (fun t i => ∃ k m : Nat, k ≤ n ∧ m ≤ k * 1048576 ∧ t = .int .i64 m ∧ i = .int .i64 k ∧ Hid (m = runS (S.take k))) (fun _ i => n - (intOf i).toNat)
  case atStart => exact ⟨0, 0, Nat.zero_le _, Nat.zero_le _, rfl, rfl, rfl⟩
  case round =>
    obtain ⟨k, m, hk, hm, rfl, rfl, HO⟩ := hrel
    by_cases hlt' : k < n
    · have hltI : (k : Int) < (n : Int) := by omega
      have hk0 : (0 : Int) ≤ (k : Int) := by omega
      obtain ⟨x, hx⟩ : ∃ x, S[k]? = some x := ⟨_, List.getElem?_eq_getElem (show k < S.length by have := HN.out; omega)⟩
      obtain ⟨b, off, rfl, hbw, hcells⟩ := ha (by omega)
      obtain ⟨c0, c1⟩ := hcells k x hx
      have hxm : x ∈ S := List.mem_of_getElem? hx
      obtain ⟨hln, hla⟩ := hlines x hxm
      have HL : Hid (x.ln = x.lines.length) := hln
      have hle := hs x hxm
      have HX : Hid (S[k]? = some x) := hx
      clear hcells hx ha hlines hs hln hxm
      obtain ⟨nm, la, ln, lc, LS⟩ := x
      simp only at c0 c1 hla HL hle HX
      go_wp2
      go_loop [3, 6] (fun t i => ∃ j q : Nat, j ≤ ln ∧ q ≤ m + j ∧ t = .int .i64 q ∧ i = .int .i64 j ∧ Hid (q = m + runL (LS.take j))) (fun _ i => ln - (intOf i).toNat)
      case atStart => exact ⟨0, m, Nat.zero_le _, Nat.le_refl _, rfl, rfl, rfl⟩
      case round =>
        obtain ⟨j, q, hj, hq, rfl, rfl, HQ⟩ := hrel
        by_cases hlj : j < ln
        · have hljI : (j : Int) < (ln : Int) := by omega
          have hj0 : (0 : Int) ≤ (j : Int) := by omega
          obtain ⟨y, hy⟩ : ∃ y, LS[j]? = some y := ⟨_, List.getElem?_eq_getElem (show j < LS.length by have := HL.out; omega)⟩
          obtain ⟨b2, off2, rfl, hbw2, hcells⟩ := hla (by omega)
          obtain ⟨d0, d1, d2, d3, d4⟩ := hcells j y hy
          have hst := runL_step hy
          have HY : Hid (runL (LS.take (j + 1)) = runL (LS.take j) + (if runs y.1 then 1 else 0)) := hst
          have cr := runs9 y.1
          clear hcells hy hst hla
          cases hr : runs y.1
          · rw [hr] at cr HY
            go_wp2_with (fail)
            go_at_call 9
            refine (cr _).mono ?_
            rintro e w1 ⟨rfl, rfl⟩
            go_wp2_with (fail)
            go_round
            case rel =>
              refine ⟨j + 1, q, by omega, by omega, rfl, by go_num, ?_⟩
              show q = _
              rw [HY.out, HQ.out]; rfl
            case measure => simp [intOf]; omega
          · rw [hr] at cr HY
            go_wp2_with (fail)
            go_at_call 9
            refine (cr _).mono ?_
            rintro e w1 ⟨rfl, rfl⟩
            go_wp2_with (fail)
            go_round
            case rel =>
              refine ⟨j + 1, q + 1, by omega, by omega, by go_num, by go_num, ?_⟩
              show q + 1 = _
              rw [HY.out, HQ.out]; rfl
            case measure => simp [intOf]; omega
        · have hjn : j = ln := by omega
          subst hjn
          go_wp2
          go_round
          case rel =>
            refine ⟨k + 1, q, by omega, by omega, rfl, by go_num, ?_⟩
            show q = _
            rw [runS_step HX.out, HQ.out, ← HO.out]
            show _ = m + runL LS
            rw [List.take_of_length_le (by have := HL.out; omega)]
          case measure => simp [intOf]; omega
    · have hkn : k = n := by omega
      subst hkn
      go_wp2
      go_ret
      exact ⟨by rw [HO.out, List.take_of_length_le (by have := HN.out; omega)]; rfl, rfl⟩
end Go.Proofs.Qxb6627325a
