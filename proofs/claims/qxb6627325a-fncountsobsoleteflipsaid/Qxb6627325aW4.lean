import Derived.Test.Qxb6627325aD1
namespace Go.Proofs.Qxb6627325a
open Go.RowKit

def Small (s0 s1 s2 s3 s4 : ByteArray) (ln : Nat) (L : List Ln) (n : Nat) (S : List Sc) : Prop :=
  (s0.size ≤ 1048576 ∧ s1.size ≤ 1048576 ∧ s2.size ≤ 1048576 ∧ s3.size ≤ 1048576 ∧ s4.size ≤ 1048576 ∧ ln ≤ 1048576) ∧ SmallL L ∧ n ≤ 1048576 ∧ SmallS S
def BPost (s0 s1 s2 s3 s4 : ByteArray) (ln : Nat) (L : List Ln) (n : Nat) (S : List Sc) (w : World) (e : Ending) (w' : World) : Prop :=
  ∃ r : Bool, e = .returned (.bool r) ∧ w' = w ∧ (r = true → Small s0 s1 s2 s3 s4 ln L n S)

theorem bp_false {s0 s1 s2 s3 s4 : ByteArray} {ln : Nat} {L : List Ln} {n : Nat} {S : List Sc} {w : World} : BPost s0 s1 s2 s3 s4 ln L n S w (.returned (.bool false)) w := ⟨false, rfl, rfl, fun h => by cases h⟩

def PreL (L : List Ln) (k : Nat) : Prop := ∀ (j : Nat) (x : Ln), j < k → L[j]? = some x → x.2.2.1.size ≤ 1048576 ∧ x.2.2.2.2.size ≤ 1048576
def PreS (S : List Sc) (k : Nat) : Prop := ∀ (j : Nat) (x : Sc), j < k → S[j]? = some x → x.name.size ≤ 1048576 ∧ x.ln ≤ 1048576 ∧ SmallL x.lines
theorem PreL.zero (L : List Ln) : PreL L 0 := fun _ _ h => absurd h (Nat.not_lt_zero _)
theorem PreS.zero (S : List Sc) : PreS S 0 := fun _ _ h => absurd h (Nat.not_lt_zero _)
theorem PreL.step {L : List Ln} {k : Nat} {y : Ln} (h : PreL L k) (hy : L[k]? = some y) (h1 : y.2.2.1.size ≤ 1048576) (h2 : y.2.2.2.2.size ≤ 1048576) : PreL L (k + 1) := by
  intro j x hj hx
  by_cases e : j = k
  · subst e; rw [hy] at hx; cases hx; exact ⟨h1, h2⟩
  · exact h j x (by omega) hx
theorem PreS.step {S : List Sc} {k : Nat} {y : Sc} (h : PreS S k) (hy : S[k]? = some y) (h1 : y.name.size ≤ 1048576) (h2 : y.ln ≤ 1048576) (h3 : SmallL y.lines) : PreS S (k + 1) := by
  intro j x hj hx
  by_cases e : j = k
  · subst e; rw [hy] at hx; cases hx; exact ⟨h1, h2, h3⟩
  · exact h j x (by omega) hx
theorem PreL.all {L : List Ln} {k : Nat} (h : PreL L k) (hk : L.length ≤ k) : SmallL L := fun x hx => by
  obtain ⟨j, hj⟩ := List.getElem?_of_mem hx
  exact h j x (by have := (List.getElem?_eq_some_iff.1 hj).1; omega) hj
theorem PreS.all {S : List Sc} {k : Nat} (h : PreS S k) (hk : S.length ≤ k) : SmallS S := fun x hx => by
  obtain ⟨j, hj⟩ := List.getElem?_of_mem hx
  exact h j x (by have := (List.getElem?_eq_some_iff.1 hj).1; omega) hj

set_option maxRecDepth 100000 in
set_option maxHeartbeats 4000000 in
theorem bytes (s0 s1 s2 s3 s4 : ByteArray) (la : Option Addr) (ln lc : Nat) (L : List Ln) (a : Option Addr) (n cap : Nat) (S : List Sc) (i j : Int) (w : World)
    (hL : LinesAt w la ln L) (hS : SecsAt w a n S) :
    Calls Try.prog 4 #[.string s0, .string s1, .string s2, .string s3, .string s4, .slice la ln lc, .slice a n cap, .int .i64 i, .int .i64 j] w (BPost s0 s1 s2 s3 s4 ln L n S w) := by
  obtain ⟨HL', hla⟩ := hL
  have HL : Hid (ln = L.length) := HL'
  obtain ⟨HN', ha, hlines⟩ := hS
  have HN : Hid (n = S.length) := HN'
  clear HL' HN'
  go_enter Try.func4, Try.ntmps4
  go_wp2
  all_goals try (go_ret; exact bp_false)
  have HH : Hid (s0.size ≤ 1048576 ∧ s1.size ≤ 1048576 ∧ s2.size ≤ 1048576 ∧ s3.size ≤ 1048576 ∧ s4.size ≤ 1048576 ∧ ln ≤ 1048576) := by
    refine ⟨?_, ?_, ?_, ?_, ?_, ?_⟩ <;> omega
  go_loop [19, 20] (fun t i => ∃ (k : Nat) (z : Int), k ≤ ln ∧ 0 ≤ z ∧ z ≤ 1048576 ∧ t = .int .i64 z ∧ i = .int .i64 k ∧ Hid (PreL L k)) (fun _ i => ln - (intOf i).toNat)
  case atStart => exact ⟨0, _, Nat.zero_le _, by omega, by omega, rfl, rfl, PreL.zero L⟩
  case round =>
    obtain ⟨k, z, hk, hz0, hz1, rfl, rfl, HO⟩ := hrel
    by_cases hlt : k < ln
    · have hltI : (k : Int) < (ln : Int) := by omega
      have hk0 : (0 : Int) ≤ (k : Int) := by omega
      obtain ⟨y, hy⟩ : ∃ y, L[k]? = some y := ⟨_, List.getElem?_eq_getElem (show k < L.length by have := HL.out; omega)⟩
      obtain ⟨b, off, rfl, hbw, hcells⟩ := hla (by omega)
      obtain ⟨d0, d1, d2, d3, d4⟩ := hcells k y hy
      have HY : Hid (L[k]? = some y) := hy
      clear hcells hy hla ha hlines
      go_wp2
      all_goals first
        | (go_ret; exact bp_false)
        | (go_round
           case rel => exact ⟨k + 1, _, by omega, by omega, by omega, rfl, by go_num, HO.out.step HY.out (by omega) (by omega)⟩
           case measure => simp [intOf]; omega)
    · have HSL : Hid (SmallL L) := HO.out.all (by have := HL.out; omega)
      clear hla
      go_wp2
      all_goals try (go_ret; exact bp_false)
      have hn : n ≤ 1048576 := by omega
      go_loop [19, 21] (fun t i => ∃ (k : Nat) (z : Int), k ≤ n ∧ 0 ≤ z ∧ z ≤ 1048576 ∧ t = .int .i64 z ∧ i = .int .i64 k ∧ Hid (PreS S k)) (fun _ i => n - (intOf i).toNat)
      case atStart => exact ⟨0, _, Nat.zero_le _, by omega, by omega, rfl, rfl, PreS.zero S⟩
      case round =>
        obtain ⟨k2, z2, hk2, hz20, hz21, rfl, rfl, HO2⟩ := hrel
        by_cases hlt2 : k2 < n
        · have hltI2 : (k2 : Int) < (n : Int) := by omega
          have hk20 : (0 : Int) ≤ (k2 : Int) := by omega
          obtain ⟨x, hx⟩ : ∃ x, S[k2]? = some x := ⟨_, List.getElem?_eq_getElem (show k2 < S.length by have := HN.out; omega)⟩
          obtain ⟨b, off, rfl, hbw, hcells⟩ := ha (by omega)
          obtain ⟨c0, c1⟩ := hcells k2 x hx
          obtain ⟨hxl, hxa⟩ := hlines x (List.mem_of_getElem? hx)
          have HXL : Hid (x.ln = x.lines.length) := hxl
          have HX : Hid (S[k2]? = some x) := hx
          clear hcells hx hxl ha hlines
          obtain ⟨nm, xa, xn, xc, LS⟩ := x
          simp only at c0 c1 hxa HXL
          go_wp2
          all_goals try (go_ret; exact bp_false)
          have hnm : nm.size ≤ 1048576 := by omega
          have hxn : xn ≤ 1048576 := by omega
          go_loop [19, 22] (fun t i => ∃ (k : Nat) (z : Int), k ≤ xn ∧ 0 ≤ z ∧ z ≤ 1048576 ∧ t = .int .i64 z ∧ i = .int .i64 k ∧ Hid (PreL LS k)) (fun _ i => xn - (intOf i).toNat)
          case atStart => exact ⟨0, _, Nat.zero_le _, by omega, by omega, rfl, rfl, PreL.zero LS⟩
          case round =>
            obtain ⟨k3, z3, hk3, hz30, hz31, rfl, rfl, HO3⟩ := hrel
            by_cases hlt3 : k3 < xn
            · have hltI3 : (k3 : Int) < (xn : Int) := by omega
              have hk30 : (0 : Int) ≤ (k3 : Int) := by omega
              obtain ⟨y, hy⟩ : ∃ y, LS[k3]? = some y := ⟨_, List.getElem?_eq_getElem (show k3 < LS.length by have := HXL.out; omega)⟩
              obtain ⟨b3, off3, rfl, hbw3, hcells⟩ := hxa (by omega)
              obtain ⟨d0, d1, d2, d3, d4⟩ := hcells k3 y hy
              have HY : Hid (LS[k3]? = some y) := hy
              clear hcells hy hxa
              go_wp2
              all_goals first
                | (go_ret; exact bp_false)
                | (go_round
                   case rel => exact ⟨k3 + 1, _, by omega, by omega, by omega, rfl, by go_num, HO3.out.step HY.out (by omega) (by omega)⟩
                   case measure => simp [intOf]; omega)
            · have HSL3 : Hid (SmallL LS) := HO3.out.all (by have := HXL.out; omega)
              clear hxa
              go_wp2
              go_round
              case rel => exact ⟨k2 + 1, _, by omega, by omega, by omega, rfl, by go_num, HO2.out.step HX.out hnm hxn HSL3.out⟩
              case measure => simp [intOf]; omega
        · have HSS : Hid (SmallS S) := HO2.out.all (by have := HN.out; omega)
          clear ha hlines
          go_wp2
          go_ret
          exact ⟨true, rfl, rfl, fun _ => ⟨HH.out, HSL.out, hn, HSS.out⟩⟩

def SPost (w : World) (e : Ending) (w' : World) : Prop := ∃ r : Int, e = .returned (.int .i64 r) ∧ w' = w
theorem sp {w : World} {r : Int} : SPost w (.returned (.int .i64 r)) w := ⟨r, rfl, rfl⟩

set_option maxRecDepth 100000 in
set_option maxHeartbeats 4000000 in
theorem sized (s0 s1 s2 s3 s4 : ByteArray) (la : Option Addr) (ln lc : Nat) (L : List Ln) (a : Option Addr) (n cap : Nat) (S : List Sc) (w : World)
    (hL : LinesAt w la ln L) (hS : SecsAt w a n S) (hs : Small s0 s1 s2 s3 s4 ln L n S) :
    Calls Try.prog 5 #[.string s0, .string s1, .string s2, .string s3, .string s4, .slice la ln lc, .slice a n cap] w (SPost w) := by
  obtain ⟨HL', hla⟩ := hL
  have HL : Hid (ln = L.length) := HL'
  obtain ⟨HN', ha, hlines⟩ := hS
  have HN : Hid (n = S.length) := HN'
  clear HL' HN'
  obtain ⟨⟨e0, e1, e2, e3, e4, e5⟩, hSL, hn, hSS⟩ := hs
  go_enter Try.func5, Try.ntmps5
  go_wp2
  all_goals try (go_ret; exact sp)
  go_loop [15, 16] (fun t i => ∃ (k : Nat) (z : Int), k ≤ ln ∧ 0 ≤ z ∧ z ≤ 1048576 ∧ t = .int .i64 z ∧ i = .int .i64 k) (fun _ i => ln - (intOf i).toNat)
  case atStart => exact ⟨0, _, Nat.zero_le _, by omega, by omega, rfl, rfl⟩
  case round =>
    obtain ⟨k, z, hk, hz0, hz1, rfl, rfl⟩ := hrel
    by_cases hlt : k < ln
    · have hltI : (k : Int) < (ln : Int) := by omega
      have hk0 : (0 : Int) ≤ (k : Int) := by omega
      obtain ⟨y, hy⟩ : ∃ y, L[k]? = some y := ⟨_, List.getElem?_eq_getElem (show k < L.length by have := HL.out; omega)⟩
      obtain ⟨b, off, rfl, hbw, hcells⟩ := hla (by omega)
      obtain ⟨d0, d1, d2, d3, d4⟩ := hcells k y hy
      obtain ⟨q1, q2⟩ := hSL y (List.mem_of_getElem? hy)
      clear hcells hy hla ha hlines hSL hSS
      go_wp2
      all_goals first
        | (go_ret; exact sp)
        | (go_round
           case rel => exact ⟨k + 1, _, by omega, by omega, by omega, rfl, by go_num⟩
           case measure => simp [intOf]; omega)
    · clear hla hSL
      go_wp2
      go_loop [15, 17] (fun t i => ∃ (k : Nat) (z : Int), k ≤ n ∧ 0 ≤ z ∧ z ≤ 1048576 ∧ t = .int .i64 z ∧ i = .int .i64 k) (fun _ i => n - (intOf i).toNat)
      case atStart => exact ⟨0, _, Nat.zero_le _, by omega, by omega, rfl, rfl⟩
      case round =>
        obtain ⟨k2, z2, hk2, hz20, hz21, rfl, rfl⟩ := hrel
        by_cases hlt2 : k2 < n
        · have hltI2 : (k2 : Int) < (n : Int) := by omega
          have hk20 : (0 : Int) ≤ (k2 : Int) := by omega
          obtain ⟨x, hx⟩ : ∃ x, S[k2]? = some x := ⟨_, List.getElem?_eq_getElem (show k2 < S.length by have := HN.out; omega)⟩
          obtain ⟨b, off, rfl, hbw, hcells⟩ := ha (by omega)
          obtain ⟨c0, c1⟩ := hcells k2 x hx
          obtain ⟨hxl, hxa⟩ := hlines x (List.mem_of_getElem? hx)
          obtain ⟨hnm, hxn, hxs⟩ := hSS x (List.mem_of_getElem? hx)
          have HXL : Hid (x.ln = x.lines.length) := hxl
          clear hcells hx hxl ha hlines hSS
          obtain ⟨nm, xa, xn, xc, LS⟩ := x
          simp only at c0 c1 hxa HXL hnm hxn hxs
          go_wp2
          all_goals try (go_ret; exact sp)
          go_loop [15, 19] (fun t i => ∃ (k : Nat) (z : Int), k ≤ xn ∧ 0 ≤ z ∧ z ≤ 1048576 ∧ t = .int .i64 z ∧ i = .int .i64 k) (fun _ i => xn - (intOf i).toNat)
          case atStart => exact ⟨0, _, Nat.zero_le _, by omega, by omega, rfl, rfl⟩
          case round =>
            obtain ⟨k3, z3, hk3, hz30, hz31, rfl, rfl⟩ := hrel
            by_cases hlt3 : k3 < xn
            · have hltI3 : (k3 : Int) < (xn : Int) := by omega
              have hk30 : (0 : Int) ≤ (k3 : Int) := by omega
              obtain ⟨y, hy⟩ : ∃ y, LS[k3]? = some y := ⟨_, List.getElem?_eq_getElem (show k3 < LS.length by have := HXL.out; omega)⟩
              obtain ⟨b3, off3, rfl, hbw3, hcells⟩ := hxa (by omega)
              obtain ⟨d0, d1, d2, d3, d4⟩ := hcells k3 y hy
              obtain ⟨q1, q2⟩ := hxs y (List.mem_of_getElem? hy)
              clear hcells hy hxa hxs
              go_wp2
              all_goals first
                | (go_ret; exact sp)
                | (go_round
                   case rel => exact ⟨k3 + 1, _, by omega, by omega, by omega, rfl, by go_num⟩
                   case measure => simp [intOf]; omega)
            · clear hxa hxs
              go_wp2
              go_round
              case rel => exact ⟨k2 + 1, _, by omega, by omega, by omega, rfl, by go_num⟩
              case measure => simp [intOf]; omega
        · clear ha hlines hSS
          go_wp2
          go_ret
          exact sp
end Go.Proofs.Qxb6627325a
