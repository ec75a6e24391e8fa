import Derived.Test.Qxb6630893aRows
import Derived.Test.Qxb6630893aW1
import Derived.WalkKit
import Derived.ProofKit
import Derived.OpenShut
import Derived.ShutString
namespace Go.Proofs.Qxb6630893a
open Go.ChangeShapes Go.WideShapes Go.ChangeAt Go.RowKit
open Go.ChangeMaps (open_string shut_string)
set_option linter.unusedVariables false
namespace split

theorem own : ownKnob Try.prog.godebug = none := by kernel_rfl

theorem parts (s : ByteArray) (n : Nat) (hn : n ≤ s.size) : s.extract 0 n ++ s.extract n s.size = s := by
  apply ByteArray.ext
  simp [hn]

theorem allV_append (a b : ByteArray) : allV (a ++ b) = (allV a && allV b) := by
  simp [allV, ByteArray.data_append]

theorem good_ne (s : ByteArray) (h : s.size ≠ 0) : good s = allV s := by
  simp [good, isEmpty_iff, h]

theorem size_ex (s : ByteArray) (a b : Nat) : (s.extract a b).size ≤ s.size := by
  rw [ByteArray.size_extract]; omega

theorem plain (s : ByteArray) (n : Nat) (h0 : n ≠ 0) (hn : n < s.size) : good s = (good (s.extract 0 n) && good (s.extract n s.size)) := by
  rw [good_ne s (by omega), good_ne (s.extract 0 n) (by rw [ByteArray.size_extract]; omega), good_ne (s.extract n s.size) (by rw [ByteArray.size_extract]; omega), ← allV_append, parts s n (by omega)]

theorem whole (s : ByteArray) : s.extract 0 s.size = s := by
  apply ByteArray.ext
  simp

set_option maxRecDepth 100000 in
set_option maxHeartbeats 1000000 in
theorem inner (s : ByteArray) (n : Nat) (h0 : n ≠ 0) (hn : n < s.size) (hs : s.size ≤ 1048576) (w : World) :
    Calls Try.prog 3 #[.string s, .int .i64 n] w fun e w' => e = .returned (.bool true) ∧ w' = w := by
  have hE : s.toList.isEmpty = false := by rw [isEmpty_iff]; exact decide_eq_false (by omega)
  have hp := plain s n h0 hn
  have tW := token s (by omega)
  have tL := token (s.extract 0 n) (by have := size_ex s 0 n; omega)
  have tR := token (s.extract n s.size) (by have := size_ex s n s.size; omega)
  have cb := bytes5 s n (by unfold maxLen; omega)
  have cc := count s (by omega)
  have hz := bad_zero s
  rw [← good_ne s (by omega)] at hz
  have hsz : decide (s.size ≤ 1048576) = true := by simp; omega
  rw [hsz] at cb
  have hlI : ¬ (1048576 : Int) < (s.size : Int) := by omega
  have hkI : ¬ (n : Int) < 0 := by omega
  have hkI2 : ¬ (s.size : Int) < (n : Int) := by omega
  have hk0 : ((n : Int) == 0) = false := by simp; omega
  have hk1 : ((n : Int) == (s.size : Int)) = false := by simp; omega
  generalize bad s s.size = m at hz cc
  generalize good (s.extract 0 n) = bl at tL hp
  generalize good (s.extract n s.size) = br at tR hp
  generalize good s = b at tW hp hz
  clear hsz
  cases bl <;> cases br <;> (simp at hp; subst hp)
  all_goals (
    go_enter Try.func3, Try.ntmps3
    go_wp2_with (fail)
    go_at_call 5
    refine (cb _).mono ?_
    rintro e w1 ⟨rfl, rfl⟩
    go_wp2_with (fail)
    go_at_call 6
    refine (tW _).mono ?_
    rintro e w1 ⟨rfl, rfl⟩
    go_wp2_with (fail)
    refine (tL _).mono ?_
    rintro e w1 ⟨rfl, rfl⟩
    go_wp2_with (fail)
    refine (tR _).mono ?_
    rintro e w1 ⟨rfl, rfl⟩
    go_wp2_with (fail)
    refine (cc _).mono ?_
    rintro e w1 ⟨rfl, rfl⟩
    go_wp2_with (fail)
    go_ret
    exact ⟨rfl, rfl⟩)

set_option maxRecDepth 100000 in
set_option maxHeartbeats 1000000 in
theorem atZero (s : ByteArray) (hn : 0 < s.size) (hs : s.size ≤ 1048576) (w : World) :
    Calls Try.prog 3 #[.string s, .int .i64 0] w fun e w' => e = .returned (.bool true) ∧ w' = w := by
  have hE : s.toList.isEmpty = false := by rw [isEmpty_iff]; exact decide_eq_false (by omega)
  have tW := token s (by omega)
  have cb := bytes5 s 0 (by unfold maxLen; omega)
  have cc := count s (by omega)
  have hz := bad_zero s
  rw [← good_ne s (by omega)] at hz
  have hsz : decide (s.size ≤ 1048576) = true := by simp; omega
  rw [hsz] at cb
  have hlI : ¬ (1048576 : Int) < (s.size : Int) := by omega
  have hkI2 : ¬ (s.size : Int) < 0 := by omega
  have hk1 : ((0 : Int) == (s.size : Int)) = false := by simp; omega
  generalize bad s s.size = m at hz cc
  clear hsz
  generalize good s = b at tW hz
  cases b
  all_goals (
    go_enter Try.func3, Try.ntmps3
    go_wp2_with (fail)
    go_at_call 5
    refine (cb _).mono ?_
    rintro e w1 ⟨rfl, rfl⟩
    go_wp2_with (fail)
    go_at_call 6
    refine (tW _).mono ?_
    rintro e w1 ⟨rfl, rfl⟩
    go_wp2_with (fail)
    refine (tW _).mono ?_
    rintro e w1 ⟨rfl, rfl⟩
    go_wp2_with (fail)
    refine (cc _).mono ?_
    rintro e w1 ⟨rfl, rfl⟩
    go_wp2_with (fail)
    go_ret
    exact ⟨rfl, rfl⟩)

set_option maxRecDepth 100000 in
set_option maxHeartbeats 1000000 in
theorem atEnd (s : ByteArray) (n : Nat) (hq : n = s.size) (hn : n ≠ 0) (hs : s.size ≤ 1048576) (w : World) :
    Calls Try.prog 3 #[.string s, .int .i64 n] w fun e w' => e = .returned (.bool true) ∧ w' = w := by
  have hE : s.toList.isEmpty = false := by rw [isEmpty_iff]; exact decide_eq_false (by omega)
  have tW := token s (by omega)
  have tL := token (s.extract 0 n) (by have := size_ex s 0 n; omega)
  have hq2 : good (s.extract 0 n) = good s := by rw [hq, whole]
  rw [hq2] at tL
  have cb := bytes5 s n (by unfold maxLen; omega)
  have cc := count s (by omega)
  have hz := bad_zero s
  rw [← good_ne s (by omega)] at hz
  have hsz : decide (s.size ≤ 1048576) = true := by simp; omega
  rw [hsz] at cb
  have hlI : ¬ (1048576 : Int) < (s.size : Int) := by omega
  have hkI : ¬ (n : Int) < 0 := by omega
  have hkI2 : ¬ (s.size : Int) < (n : Int) := by omega
  have hk0 : ((n : Int) == 0) = false := by simp; omega
  have hk1 : ((n : Int) == (s.size : Int)) = true := by simp; omega
  generalize bad s s.size = m at hz cc
  clear hq2 hsz hq
  generalize good s = b at tW tL hz
  cases b
  all_goals (
    go_enter Try.func3, Try.ntmps3
    go_wp2_with (fail)
    go_at_call 5
    refine (cb _).mono ?_
    rintro e w1 ⟨rfl, rfl⟩
    go_wp2_with (fail)
    go_at_call 6
    refine (tW _).mono ?_
    rintro e w1 ⟨rfl, rfl⟩
    go_wp2_with (fail)
    refine (tL _).mono ?_
    rintro e w1 ⟨rfl, rfl⟩
    go_wp2_with (fail)
    refine (cc _).mono ?_
    rintro e w1 ⟨rfl, rfl⟩
    go_wp2_with (fail)
    go_ret
    exact ⟨rfl, rfl⟩)

set_option maxRecDepth 100000 in
set_option maxHeartbeats 1000000 in
theorem empty (s : ByteArray) (hq : s.size = 0) (w : World) :
    Calls Try.prog 3 #[.string s, .int .i64 0] w fun e w' => e = .returned (.bool true) ∧ w' = w := by
  have hE : s.toList.isEmpty = true := by rw [isEmpty_iff]; exact decide_eq_true hq
  have tW := token s (by omega)
  have hg : good s = false := by simp [good, hE]
  rw [hg] at tW
  have cb := bytes5 s 0 (by unfold maxLen; omega)
  have hsz : decide (s.size ≤ 1048576) = true := by simp; omega
  rw [hsz] at cb
  have hsI : (s.size : Int) = 0 := by omega
  clear hsz hg
  go_enter Try.func3, Try.ntmps3
  go_wp2_with (fail)
  go_at_call 5
  refine (cb _).mono ?_
  rintro e w1 ⟨rfl, rfl⟩
  go_wp2_with (fail)
  go_at_call 6
  refine (tW _).mono ?_
  rintro e w1 ⟨rfl, rfl⟩
  go_wp2_with (fail)
  go_ret
  exact ⟨rfl, rfl⟩

set_option maxRecDepth 100000 in
set_option maxHeartbeats 1000000 in
theorem long (s : ByteArray) (k : Int) (hs0 : s.size ≤ maxLen) (hs : ¬ s.size ≤ 1048576) (w : World) :
    Calls Try.prog 3 #[.string s, .int .i64 k] w fun e w' => e = .returned (.bool true) ∧ w' = w := by
  have cb := bytes5 s k hs0
  rw [decide_eq_false hs] at cb
  go_enter Try.func3, Try.ntmps3
  go_wp2_with (fail)
  go_at_call 5
  refine (cb _).mono ?_
  rintro e w1 ⟨rfl, rfl⟩
  go_wp2_with (fail)
  go_ret
  exact ⟨rfl, rfl⟩

set_option maxRecDepth 100000 in
set_option maxHeartbeats 1000000 in
theorem out (s : ByteArray) (k : Int) (hs : s.size ≤ 1048576) (hk : k < 0 ∨ (s.size : Int) < k) (w : World) :
    Calls Try.prog 3 #[.string s, .int .i64 k] w fun e w' => e = .returned (.bool true) ∧ w' = w := by
  have cb := bytes5 s k (by unfold maxLen; omega)
  rw [decide_eq_true hs] at cb
  have hlI : ¬ (1048576 : Int) < (s.size : Int) := by omega
  by_cases h0 : k < 0
  · clear hk
    go_enter Try.func3, Try.ntmps3
    go_wp2_with (fail)
    go_at_call 5
    refine (cb _).mono ?_
    rintro e w1 ⟨rfl, rfl⟩
    go_wp2_with (fail)
    go_ret
    exact ⟨rfl, rfl⟩
  · have h1 : (s.size : Int) < k := by omega
    clear hk
    go_enter Try.func3, Try.ntmps3
    go_wp2_with (fail)
    go_at_call 5
    refine (cb _).mono ?_
    rintro e w1 ⟨rfl, rfl⟩
    go_wp2_with (fail)
    go_ret
    exact ⟨rfl, rfl⟩

theorem walk (a0 : ByteArray) (a1 : Int) (w0 : a0.size ≤ maxLen) (w1 : (Lit.int .i64 a1).wf = true) (w : World) :
    Calls Try.prog 3 #[.string a0, .int .i64 a1] w fun e w' => e = .returned (.bool true) ∧ Grown w w' := by
  suffices h : Calls Try.prog 3 #[.string a0, .int .i64 a1] w fun e w' => e = .returned (.bool true) ∧ w' = w by
    exact h.mono fun e w' ⟨he, hw⟩ => ⟨he, hw ▸ Grown.refl w⟩
  by_cases hs : a0.size ≤ 1048576
  · by_cases hk : a1 < 0 ∨ (a0.size : Int) < a1
    · exact out a0 a1 hs hk w
    · obtain ⟨n, rfl⟩ : ∃ n : Nat, a1 = (n : Int) := ⟨a1.toNat, by omega⟩
      by_cases h0 : n = 0
      · subst h0
        by_cases hz : a0.size = 0
        · exact empty a0 hz w
        · exact atZero a0 (by omega) hs w
      · by_cases h1 : n = a0.size
        · exact atEnd a0 n h1 h0 hs w
        · exact inner a0 n h0 (by omega) hs w
  · exact long a0 a1 w0 hs w

set_option maxRecDepth 100000 in
theorem lifted (os : Os) (started : os.Started) (H : Type) (enc : TypeId × Value → H) :
    ReturnsInHanded {} Try.checked os 3 .any (Rows.fnBearerTokenSplitAtAnyCutSpec.pre6 enc Try.prog Try.f3 Rows.fnBearerTokenSplitAtAnyCutRow.domain false) (Rows.fnBearerTokenSplitAtAnyCutSpec.post enc Try.prog Try.f3 false true false false) := by
  refine returnsInHanded_of_change (C := Try.checked) own started (by kernel_rfl) Try.func3
    (ChangeSpec.witness6 (enc := enc) (C := Try.checked) false ⟨#[], #[.string ByteArray.empty, .int .i64 0], []⟩ 8 (by kernel_rfl) (by kernel_rfl) (by kernel_rfl) (by kernel_rfl)) ?_
  intro W base args ds gs before hval0 hW hcnd _
  have hval : ∀ (j : Nat) t v, Try.f3.params[j]? = some t → args[j]? = some v → Value.okWide Try.prog W .any base t v := hval0
  have hW' := hW
  obtain ⟨p, q, hA0, hV, rfl, hfz, hnd⟩ := hW
  have hA : DataW.TrodAll enc Try.prog W 0 (fun _ => true) true Try.f3.params.toList args.toList ds p := hA0
  rw [Try.params3] at hA hval
  obtain ⟨v0, vs0, d0, ds0, p0, q0, hargs, rfl, rfl, h0, r0⟩ := trodAll_cons hA
  obtain ⟨v1, vs1, d1, ds1, p1, q1, rfl, rfl, rfl, h1, r1⟩ := trodAll_cons r0
  obtain ⟨rfl, rfl, rfl⟩ := trodAll_nil r1
  obtain rfl : args = #[v0, v1] := by cases args; simp_all
  obtain ⟨rfl, rfl⟩ := trodVars_none hV
  obtain ⟨a0, rfl, rfl, rfl, w0⟩ := open_string Try.underlying9 (hval 0 9 v0 rfl rfl) h0
  obtain ⟨a1, rfl, rfl, rfl, w1⟩ := open_int Try.underlying3 (hval 1 3 v1 rfl rfl) h1
  clear hA0 hval0
  simp only [List.append_nil] at hW'
  refine (walk a0 a1 w0 w1 W).mono fun e W' ⟨he, hg⟩ => ?_
  subst he
  exact ⟨_, rfl, post_of_same (pa := []) (pv := []) hW' (fun _ _ _ => (trodAll_cons_mk (shut_bool Try.underlying4 _) trodAll_mk0)) (fun sp _ => (trodAll_cons_mk (shut_string Try.underlying9 w0) (trodAll_cons_mk (shut_int Try.underlying3 w1) trodAll_mk0))) (fun _ _ => rfl) rfl
    (hg.frame _) hg.2.1 (ok_one (by kernel_rfl) rfl (okWide_bool_mk Try.underlying4 _))⟩

theorem over : Rows.fnBearerTokenSplitAtAnyCutRow.holds Try.pinned (OpenSpec.ofChange Rows.fnBearerTokenSplitAtAnyCutSpec) :=
  OpenClaim.holds_of_wide 3 Try.f3 rfl rfl rfl rfl rfl rfl rfl ⟨rfl, rfl, rfl, rfl, rfl⟩ rfl rfl rfl rfl rfl (by kernel_rfl) Try.func3 (by kernel_rfl)
    (of_decide_eq_true (by kernel_rfl)) (by unfold Func.isWrapper; first | (rw [if_pos (by decide +kernel)]; kernel_rfl) | (rw [if_neg (by decide +kernel)]; exact ⟨rfl, rfl⟩))
    (fun os started H enc _ => lifted os started H enc)

end split

theorem split_proved : Rows.FnBearerTokenSplitAtAnyCutSaid := split.over
#print axioms split_proved
end Go.Proofs.Qxb6630893a
