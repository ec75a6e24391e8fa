import Derived.Test.Qxb6630893aProg
import Derived.Test.Qxb6630893aChecked
import Derived.WalkKit
import Derived.WalkSpells
import Derived.WalkLawsBesides
import Derived.BigQuiet
import Derived.Deep.QuietTactic
namespace Go.Proofs.Qxb6630893a
open Go.RowKit

/-- A visible byte. -/
def vis (b : Int) : Bool := decide (32 < b) && decide (b < 127)

set_option maxRecDepth 100000 in
theorem sendable (c : Int) (w : World) :
    Calls Try.prog 9 #[.int .u8 c] w fun e w' => e = .returned (.bool (vis c)) ∧ w' = w := by
  by_cases h1 : 32 < c
  · by_cases h2 : c < 127
    · go_enter Try.func9, Try.ntmps9
      go_wp2
      go_ret
      exact ⟨by simp [vis, h1, h2], rfl⟩
    · go_enter Try.func9, Try.ntmps9
      go_wp2
      go_ret
      exact ⟨by simp [vis, h1, h2], rfl⟩
  · have hv : vis c = false := by simp [vis]; omega
    rw [hv]
    go_enter Try.func9, Try.ntmps9
    go_wp2
    go_ret
    exact ⟨rfl, rfl⟩

set_option maxRecDepth 100000 in
theorem bytes5 (s : ByteArray) (k : Int) (_hs : s.size ≤ maxLen) (w : World) :
    Calls Try.prog 5 #[.string s, .int .i64 k] w fun e w' => e = .returned (.bool (decide (s.size ≤ 1048576))) ∧ w' = w := by
  by_cases h1 : (s.size : Int) ≤ 1048576
  · have h2 : s.size ≤ 1048576 := by omega
    go_enter Try.func5, Try.ntmps5
    go_wp2
    go_ret
    exact ⟨by simp [h2], rfl⟩
  · have h2 : decide (s.size ≤ 1048576) = false := by simp; omega
    rw [h2]
    go_enter Try.func5, Try.ntmps5
    go_wp2
    go_ret
    exact ⟨rfl, rfl⟩

set_option maxRecDepth 100000 in
theorem bytes8 (s : ByteArray) (k c : Int) (_hs : s.size ≤ maxLen) (w : World) :
    Calls Try.prog 8 #[.string s, .int .i64 k, .int .u8 c] w fun e w' => e = .returned (.bool (decide (s.size ≤ 1048576))) ∧ w' = w := by
  by_cases h1 : (s.size : Int) ≤ 1048576
  · have h2 : s.size ≤ 1048576 := by omega
    go_enter Try.func8, Try.ntmps8
    go_wp2
    go_ret
    exact ⟨by simp [h2], rfl⟩
  · have h2 : decide (s.size ≤ 1048576) = false := by simp; omega
    rw [h2]
    go_enter Try.func8, Try.ntmps8
    go_wp2
    go_ret
    exact ⟨rfl, rfl⟩

/-- All bytes visible. -/
def visB (b : UInt8) : Bool := vis (b.toNat : Int)
def allV (s : ByteArray) : Bool := s.data.toList.all visB
def good (s : ByteArray) : Bool := !s.toList.isEmpty && allV s
def bad (s : ByteArray) (k : Nat) : Nat := ((s.data.toList.take k).filter (fun b => !visB b)).length

theorem isEmpty_iff (s : ByteArray) : s.toList.isEmpty = decide (s.size = 0) := by
  rw [ByteArray.toList_eq]
  rw [Bool.eq_iff_iff]
  simp [← ByteArray.size_data]

theorem get_lt (s : ByteArray) (k : Nat) (h : k < s.size) : s.data.toList[k]? = some (s[k]'h) := by
  rw [Array.getElem?_toList, Array.getElem?_eq_getElem h]
  rfl

theorem allV_bad (s : ByteArray) (k : Nat) (h : k < s.size) (hb : visB (s[k]'h) = false) : allV s = false := by
  unfold allV
  rw [List.all_eq_false]
  exact ⟨_, List.mem_of_getElem? (get_lt s k h), by simp [hb]⟩
theorem allV_good (s : ByteArray) (h : ∀ (j : Nat) (hj : j < s.size), visB (s[j]'hj) = true) : allV s = true := by
  unfold allV
  rw [List.all_eq_true]
  intro x hx
  obtain ⟨j, hj⟩ := List.getElem?_of_mem hx
  have h1 : j < s.size := by have := (List.getElem?_eq_some_iff.1 hj).1; rw [Array.length_toList] at this; exact this
  rw [get_lt s j h1] at hj
  cases hj
  exact h j h1

set_option maxRecDepth 100000 in
set_option maxHeartbeats 1000000 in
theorem token (s : ByteArray) (hs : s.size ≤ 2000000) (w : World) :
    Calls Try.prog 6 #[.string s] w fun e w' => e = .returned (.bool (good s)) ∧ w' = w := by
  cases hE : s.toList.isEmpty with
  | true =>
    have hg : good s = false := by simp [good, hE]
    rw [hg]
    go_enter Try.func6, Try.ntmps6
    go_wp2
    go_ret
    exact ⟨rfl, rfl⟩
  | false =>
    have hg : Hid (good s = allV s) := by show _ = _; simp [good, hE]
    go_enter Try.func6, Try.ntmps6
    go_wp2
    go_loop [3] (fun v => ∃ k : Nat, k ≤ s.size ∧ v = .int .i64 k ∧ Hid (∀ (j : Nat) (hj : j < s.size), j < k → visB (s[j]'hj) = true)) (fun v => s.size - (intOf v).toNat)
    case atStart => exact ⟨0, Nat.zero_le _, rfl, fun j _ h => absurd h (Nat.not_lt_zero _)⟩
    case round =>
      obtain ⟨k, hk, rfl, HO⟩ := hrel
      by_cases hlt : k < s.size
      · have hltI : (k : Int) < (s.size : Int) := by omega
        by_cases h1 : 32 < ((s[k]'hlt).toNat : Int)
        · have h1' : ¬ ((s[k]'hlt).toNat : Int) < 33 := by omega
          by_cases h2 : ((s[k]'hlt).toNat : Int) < 127
          · have h2' : ¬ 126 < ((s[k]'hlt).toNat : Int) := by omega
            have hv : Hid (visB (s[k]'hlt) = true) := by show _ = _; simp [visB, vis]; omega
            go_wp2
            go_round
            case rel =>
              refine ⟨k + 1, by omega, by simp, ?_⟩
              intro j hj hjk
              by_cases e : j = k
              · subst e; exact hv.out
              · exact HO.out j hj (by omega)
            case measure =>
              simp only [intOf]
              omega
          · have h2' : 126 < ((s[k]'hlt).toNat : Int) := by omega
            have hv : Hid (good s = false) := by show _ = _; rw [hg.out]; exact allV_bad s k hlt (by simp [visB, vis]; omega)
            go_wp2
            go_ret
            exact ⟨by rw [hv.out]; rfl, rfl⟩
        · have h1' : ((s[k]'hlt).toNat : Int) < 33 := by omega
          have hv : Hid (good s = false) := by show _ = _; rw [hg.out]; exact allV_bad s k hlt (by simp [visB, vis]; omega)
          go_wp2
          go_ret
          exact ⟨by rw [hv.out]; rfl, rfl⟩
      · have hlt' : ¬ (k : Int) < (s.size : Int) := by omega
        have hv : Hid (good s = true) := by show _ = _; rw [hg.out]; exact allV_good s fun j hj => HO.out j hj (by omega)
        go_wp2
        go_ret
        exact ⟨by rw [hv.out]; rfl, rfl⟩

theorem take_step (s : ByteArray) (k : Nat) (h : k < s.size) : s.data.toList.take (k + 1) = s.data.toList.take k ++ [s[k]'h] := by
  rw [List.take_add_one, get_lt s k h]
  rfl
theorem bad_vis (s : ByteArray) (k : Nat) (h : k < s.size) (hv : visB (s[k]'h) = true) : bad s (k + 1) = bad s k := by
  unfold bad
  rw [take_step s k h, List.filter_append]
  simp [hv]
theorem bad_not (s : ByteArray) (k : Nat) (h : k < s.size) (hv : visB (s[k]'h) = false) : bad s (k + 1) = bad s k + 1 := by
  unfold bad
  rw [take_step s k h, List.filter_append]
  simp [hv]
theorem bad_le (s : ByteArray) (k : Nat) : bad s k ≤ k := by
  unfold bad
  exact Nat.le_trans (List.length_filter_le _ _) (List.length_take_le _ _)
theorem bad_zero (s : ByteArray) : ((bad s s.size : Int) == 0) = allV s := by
  rw [Bool.eq_iff_iff]
  simp only [bad, allV, beq_iff_eq, List.all_eq_true]
  rw [show s.size = s.data.toList.length from (Array.length_toList).symm, List.take_length]
  constructor
  · intro h x hx
    have h0 : (s.data.toList.filter (fun b => !visB b)).length = 0 := by omega
    have h1 := List.filter_eq_nil_iff.1 (List.length_eq_zero_iff.1 h0) x hx
    simpa using h1
  · intro h
    have h0 : s.data.toList.filter (fun b => !visB b) = [] := List.filter_eq_nil_iff.2 fun x hx => by simp [h x hx]
    rw [h0]
    rfl

set_option maxRecDepth 100000 in
set_option maxHeartbeats 1000000 in
theorem count (s : ByteArray) (hs : s.size ≤ 2000000) (w : World) :
    Calls Try.prog 7 #[.string s] w fun e w' => e = .returned (.int .i64 (bad s s.size)) ∧ w' = w := by
  go_enter Try.func7, Try.ntmps7
  go_wp2
  go_loop [3, 4] (fun n v => ∃ k m : Nat, k ≤ s.size ∧ m ≤ k ∧ n = .int .i64 m ∧ v = .int .i64 k ∧ Hid (m = bad s k)) (fun _ v => s.size - (intOf v).toNat)
  case atStart => exact ⟨0, 0, Nat.zero_le _, Nat.zero_le _, rfl, rfl, rfl⟩
  case round =>
    obtain ⟨k, m, hk, hm, rfl, rfl, HO⟩ := hrel
    by_cases hlt : k < s.size
    · have hltI : (k : Int) < (s.size : Int) := by omega
      have hc := sendable ((s[k]'hlt).toNat : Int) w
      cases hv : vis ((s[k]'hlt).toNat : Int) with
      | true =>
        have hV : Hid (visB (s[k]'hlt) = true) := hv
        rw [hv] at hc
        go_wp2_with (go_at_call 9; refine hc.mono ?_; rintro e w1 ⟨rfl, rfl⟩)
        go_round
        case rel => exact ⟨k + 1, m, by omega, by omega, rfl, by simp, (HO.out.trans (bad_vis s k hlt hV.out).symm)⟩
        case measure =>
          simp only [intOf]
          omega
      | false =>
        have hV : Hid (visB (s[k]'hlt) = false) := hv
        rw [hv] at hc
        go_wp2_with (go_at_call 9; refine hc.mono ?_; rintro e w1 ⟨rfl, rfl⟩)
        go_round
        case rel =>
          refine ⟨k + 1, m + 1, by omega, by omega, by simp, by simp, ?_⟩
          show m + 1 = _
          rw [bad_not s k hlt hV.out, HO.out]
        case measure =>
          simp only [intOf]
          omega
    · have hlt' : ¬ (k : Int) < (s.size : Int) := by omega
      have e : k = s.size := by omega
      subst e
      go_wp2
      go_ret
      exact ⟨by rw [← HO.out]; rfl, rfl⟩
end Go.Proofs.Qxb6630893a
