import Derived.Test.Qxb6630893aRows
import Derived.Test.Qxb6630893aW1
import Derived.WalkKit
import Derived.ProofKit
import Derived.OpenShut
import Derived.ShutString
import Derived.Great.BuildSlice
import Derived.Laws.IdiomStrings
namespace Go.Proofs.Qxb6630893a
open Go.ChangeShapes Go.WideShapes Go.ChangeAt Go.RowKit
open Go.ChangeMaps (open_string shut_string)
set_option linter.unusedVariables false
namespace insert

theorem own : ownKnob Try.prog.godebug = none := by kernel_rfl

theorem allV_append (a b : ByteArray) : allV (a ++ b) = (allV a && allV b) := by
  simp [allV, ByteArray.data_append]
theorem good_ne (s : ByteArray) (h : s.size ≠ 0) : good s = allV s := by
  simp [good, isEmpty_iff, h]
theorem size_ex (s : ByteArray) (a b : Nat) : (s.extract a b).size ≤ s.size := by
  rw [ByteArray.size_extract]; omega
theorem parts (s : ByteArray) (n : Nat) (hn : n ≤ s.size) : s.extract 0 n ++ s.extract n s.size = s := by
  apply ByteArray.ext
  simp [hn]

/-- The string of one byte. -/
def one (b : UInt8) : ByteArray := ⟨#[b]⟩
theorem one_size (b : UInt8) : (one b).size = 1 := rfl
theorem one_good (b : UInt8) : good (one b) = visB b := by
  rw [good_ne _ (by rw [one_size]; decide)]
  simp [allV, one]
theorem plain (s : ByteArray) (n : Nat) (b : UInt8) (hn : n ≤ s.size) : good (s.extract 0 n ++ one b ++ s.extract n s.size) = (allV s && visB b) := by
  rw [good_ne _ (by rw [ByteArray.size_append, ByteArray.size_append, one_size]; omega), allV_append, allV_append]
  have h := allV_append (s.extract 0 n) (s.extract n s.size)
  rw [parts s n hn] at h
  rw [h]
  have : allV (one b) = visB b := by simp [allV, one]
  rw [this]
  cases allV (s.extract 0 n) <;> cases visB b <;> simp
theorem allV_of (s : ByteArray) : (s.toList.isEmpty || good s) = allV s := by
  cases h : s.toList.isEmpty
  · rw [good_ne s (by rw [isEmpty_iff] at h; exact of_decide_eq_false h)]; rfl
  · rw [isEmpty_iff] at h
    have h0 : s.size = 0 := of_decide_eq_true h
    have : allV s = true := allV_good s fun j hj => by omega
    rw [this]; rfl

theorem hB (v : Int) (w : World) : (Instr.buildSlice 26 1 #[(0, .int .u8 v)]).run Try.prog w = .ok (.slice (some ⟨w.heap.size, 0, none⟩) 1 1) (w.alloc (.cells #[.int .u8 v] 5)) := by
  have h5 : (Try.prog.info? 5).map (fun i => (i.zero, i.size)) = some (some (.int .u8 0), 1) := by kernel_rfl
  cases hi : Try.prog.info? 5 with
  | none => rw [hi] at h5; cases h5
  | some ie =>
    rw [hi] at h5
    simp only [Option.map_some, Option.some.injEq, Prod.mk.injEq] at h5
    exact run_buildSlice w 26 5 1 _ _ ie (.int .u8 0) Try.underlying26 hi h5.1 (by rw [h5.2]; decide) (by rw [h5.2]; decide) (by
      rw [h5.2]
      exact Great.fill_flat [.int .u8 v] _ (fun u hu => by simp at hu; subst hu; rfl) (by simp))
theorem hC (b : UInt8) (w : World) (a : Addr) (h : w.cell? a = some (.int .u8 (b.toNat : Int))) : (convert 26 9 (.slice (some a) 1 1)).run Try.prog w = .ok (.string (one b)) w :=
  run_convert_bytes_back w 26 9 5 a 1 [b] Try.underlying26 Try.underlying5 Try.underlying9 (fun j hj => by
    have : j = 0 := by simp at hj; exact hj
    subst this
    simpa [Addr.add] using h)

set_option maxRecDepth 100000 in
set_option maxHeartbeats 1000000 in
theorem inner (s : ByteArray) (n : Nat) (b : UInt8) (hn : n ≤ s.size) (hs : s.size ≤ 1048576) (w : World) :
    Calls Try.prog 4 #[.string s, .int .i64 n, .int .u8 (b.toNat : Int)] w fun e w' => e = .returned (.bool true) ∧ Grown w w' := by
  have hp := plain s n b hn
  have hal := allV_of s
  have ho := one_good b
  have t1 := token (one b) (by rw [one_size]; decide)
  have tS := token s (by omega)
  have tT := token (s.extract 0 n ++ one b ++ s.extract n s.size) (by
    rw [ByteArray.size_append, ByteArray.size_append, one_size, ByteArray.size_extract, ByteArray.size_extract]; omega)
  have cb := bytes8 s n (b.toNat : Int) (by unfold maxLen; omega)
  rw [decide_eq_true hs] at cb
  have cs := sendable (b.toNat : Int)
  rw [show vis (b.toNat : Int) = visB b from rfl] at cs
  have hlI : ¬ (1048576 : Int) < (s.size : Int) := by omega
  have hkI : ¬ (n : Int) < 0 := by omega
  have hkI2 : ¬ (s.size : Int) < (n : Int) := by omega
  have hb := hB (b.toNat : Int)
  have hc : (convert 26 9 (.slice (some ⟨w.heap.size, 0, none⟩) 1 1)).run Try.prog (w.alloc (.cells #[.int .u8 (b.toNat : Int)] 5)) = .ok (.string (one b)) (w.alloc (.cells #[.int .u8 (b.toNat : Int)] 5)) := hC b _ _ (by simp)
  have hgr : Hid (Grown w (w.alloc (.cells #[.int .u8 (b.toNat : Int)] 5))) := (Grown.refl w).alloc _ _
  have z1 : (s.extract 0 n).size + (one b).size ≤ 9223372036854775807 := by
    have h1 := size_ex s 0 n
    rw [one_size]; omega
  have z2 : (s.extract 0 n ++ one b).size + (s.extract n s.size).size ≤ 9223372036854775807 := by
    have h1 := size_ex s 0 n
    have h2 := size_ex s n s.size
    rw [ByteArray.size_append, one_size]; omega
  have add1 : ∀ w : World, (Op.stringOp .add (s.extract 0 n) (one b)).run Try.prog w = .ok (.string (s.extract 0 n ++ one b)) w := fun w => run_string_add_sum w _ _ z1
  have add2 : ∀ w : World, (Op.stringOp .add (s.extract 0 n ++ one b) (s.extract n s.size)).run Try.prog w = .ok (.string (s.extract 0 n ++ one b ++ s.extract n s.size)) w := fun w => run_string_add_sum w _ _ z2
  clear z1 z2
  rw [hp, ← hal] at tT
  rw [ho] at t1
  clear hp hal ho
  generalize visB b = v at tT t1 cs
  generalize good s = g at tT tS
  cases hE : s.toList.isEmpty with
  | false =>
    rw [hE] at tT
    cases g <;> cases v
    all_goals (
      simp only [Bool.or_true, Bool.and_true, Bool.and_false, Bool.or_self, Bool.and_self] at tT
      go_enter Try.func4, Try.ntmps4
      go_wp2_with (fail)
      go_at_call 8
      refine (cb _).mono ?_
      rintro e w1 ⟨rfl, rfl⟩
      go_wp2_with (fail)
      go_quiet (fail)
      go_wp2_with (fail)
      refine (tT _).mono ?_
      rintro e w2 ⟨rfl, rfl⟩
      go_wp2_with (fail)
      refine (tS _).mono ?_
      rintro e w2 ⟨rfl, rfl⟩
      go_wp2_with (fail)
      refine (t1 _).mono ?_
      rintro e w2 ⟨rfl, rfl⟩
      go_wp2_with (fail)
      refine (cs _).mono ?_
      rintro e w2 ⟨rfl, rfl⟩
      go_wp2_with (fail)
      go_ret
      exact ⟨rfl, hgr.out⟩)
  | true =>
    rw [hE] at tT
    cases v
    all_goals (
      simp only [Bool.true_or, Bool.and_true, Bool.and_false] at tT
      go_enter Try.func4, Try.ntmps4
      go_wp2_with (fail)
      go_at_call 8
      refine (cb _).mono ?_
      rintro e w1 ⟨rfl, rfl⟩
      go_wp2_with (fail)
      go_quiet (fail)
      go_wp2_with (fail)
      refine (tT _).mono ?_
      rintro e w2 ⟨rfl, rfl⟩
      go_wp2_with (fail)
      refine (t1 _).mono ?_
      rintro e w2 ⟨rfl, rfl⟩
      go_wp2_with (fail)
      refine (cs _).mono ?_
      rintro e w2 ⟨rfl, rfl⟩
      go_wp2_with (fail)
      go_ret
      exact ⟨rfl, hgr.out⟩)

set_option maxRecDepth 100000 in
set_option maxHeartbeats 1000000 in
theorem long (s : ByteArray) (k c : Int) (hs0 : s.size ≤ maxLen) (hs : ¬ s.size ≤ 1048576) (w : World) :
    Calls Try.prog 4 #[.string s, .int .i64 k, .int .u8 c] w fun e w' => e = .returned (.bool true) ∧ w' = w := by
  have cb := bytes8 s k c hs0
  rw [decide_eq_false hs] at cb
  go_enter Try.func4, Try.ntmps4
  go_wp2_with (fail)
  go_at_call 8
  refine (cb _).mono ?_
  rintro e w1 ⟨rfl, rfl⟩
  go_wp2_with (fail)
  go_ret
  exact ⟨rfl, rfl⟩

set_option maxRecDepth 100000 in
set_option maxHeartbeats 1000000 in
theorem out (s : ByteArray) (k c : Int) (hs : s.size ≤ 1048576) (hk : k < 0 ∨ (s.size : Int) < k) (w : World) :
    Calls Try.prog 4 #[.string s, .int .i64 k, .int .u8 c] w fun e w' => e = .returned (.bool true) ∧ w' = w := by
  have cb := bytes8 s k c (by unfold maxLen; omega)
  rw [decide_eq_true hs] at cb
  have hlI : ¬ (1048576 : Int) < (s.size : Int) := by omega
  by_cases h0 : k < 0
  · clear hk
    go_enter Try.func4, Try.ntmps4
    go_wp2_with (fail)
    go_at_call 8
    refine (cb _).mono ?_
    rintro e w1 ⟨rfl, rfl⟩
    go_wp2_with (fail)
    go_ret
    exact ⟨rfl, rfl⟩
  · have h1 : (s.size : Int) < k := by omega
    clear hk
    go_enter Try.func4, Try.ntmps4
    go_wp2_with (fail)
    go_at_call 8
    refine (cb _).mono ?_
    rintro e w1 ⟨rfl, rfl⟩
    go_wp2_with (fail)
    go_ret
    exact ⟨rfl, rfl⟩

theorem walk (a0 : ByteArray) (a1 : Int) (a2 : Int) (w0 : a0.size ≤ maxLen) (w1 : (Lit.int .i64 a1).wf = true) (w2 : (Lit.int .u8 a2).wf = true) (w : World) :
    Calls Try.prog 4 #[.string a0, .int .i64 a1, .int .u8 a2] w fun e w' => e = .returned (.bool true) ∧ Grown w w' := by
  by_cases hs : a0.size ≤ 1048576
  · by_cases hk : a1 < 0 ∨ (a0.size : Int) < a1
    · exact (out a0 a1 a2 hs hk w).mono fun e w' ⟨he, hw⟩ => ⟨he, hw ▸ Grown.refl w⟩
    · obtain ⟨n, rfl⟩ : ∃ n : Nat, a1 = (n : Int) := ⟨a1.toNat, by omega⟩
      have hr : 0 ≤ a2 ∧ a2 < 256 := by
        have e1 : IntKind.u8.min = 0 := rfl
        have e2 : IntKind.u8.max = 255 := rfl
        simp only [Lit.wf, e1, e2] at w2
        simp at w2
        omega
      obtain ⟨b, rfl⟩ : ∃ b : UInt8, a2 = (b.toNat : Int) := ⟨UInt8.ofNat a2.toNat, by simp; omega⟩
      exact inner a0 n b (by omega) hs w
  · exact (long a0 a1 a2 w0 hs w).mono fun e w' ⟨he, hw⟩ => ⟨he, hw ▸ Grown.refl w⟩

set_option maxRecDepth 100000 in
theorem lifted (os : Os) (started : os.Started) (H : Type) (enc : TypeId × Value → H) :
    ReturnsInHanded {} Try.checked os 4 .any (Rows.fnBearerTokenInsertOneByteSpec.pre6 enc Try.prog Try.f4 Rows.fnBearerTokenInsertOneByteRow.domain false) (Rows.fnBearerTokenInsertOneByteSpec.post enc Try.prog Try.f4 false true false false) := by
  refine returnsInHanded_of_change (C := Try.checked) own started (by kernel_rfl) Try.func4
    (ChangeSpec.witness6 (enc := enc) (C := Try.checked) false ⟨#[], #[.string ByteArray.empty, .int .i64 0, .int .u8 0], []⟩ 8 (by kernel_rfl) (by kernel_rfl) (by kernel_rfl) (by kernel_rfl)) ?_
  intro W base args ds gs before hval0 hW hcnd _
  have hval : ∀ (j : Nat) t v, Try.f4.params[j]? = some t → args[j]? = some v → Value.okWide Try.prog W .any base t v := hval0
  have hW' := hW
  obtain ⟨p, q, hA0, hV, rfl, hfz, hnd⟩ := hW
  have hA : DataW.TrodAll enc Try.prog W 0 (fun _ => true) true Try.f4.params.toList args.toList ds p := hA0
  rw [Try.params4] at hA hval
  obtain ⟨v0, vs0, d0, ds0, p0, q0, hargs, rfl, rfl, h0, r0⟩ := trodAll_cons hA
  obtain ⟨v1, vs1, d1, ds1, p1, q1, rfl, rfl, rfl, h1, r1⟩ := trodAll_cons r0
  obtain ⟨v2, vs2, d2, ds2, p2, q2, rfl, rfl, rfl, h2, r2⟩ := trodAll_cons r1
  obtain ⟨rfl, rfl, rfl⟩ := trodAll_nil r2
  obtain rfl : args = #[v0, v1, v2] := by cases args; simp_all
  obtain ⟨rfl, rfl⟩ := trodVars_none hV
  obtain ⟨a0, rfl, rfl, rfl, w0⟩ := open_string Try.underlying9 (hval 0 9 v0 rfl rfl) h0
  obtain ⟨a1, rfl, rfl, rfl, w1⟩ := open_int Try.underlying3 (hval 1 3 v1 rfl rfl) h1
  obtain ⟨a2, rfl, rfl, rfl, w2⟩ := open_int Try.underlying5 (hval 2 5 v2 rfl rfl) h2
  clear hA0 hval0
  simp only [List.append_nil] at hW'
  refine (walk a0 a1 a2 w0 w1 w2 W).mono fun e W' ⟨he, hg⟩ => ?_
  subst he
  exact ⟨_, rfl, post_of_same (pa := []) (pv := []) hW' (fun _ _ _ => (trodAll_cons_mk (shut_bool Try.underlying4 _) trodAll_mk0)) (fun sp _ => (trodAll_cons_mk (shut_string Try.underlying9 w0) (trodAll_cons_mk (shut_int Try.underlying3 w1) (trodAll_cons_mk (shut_int Try.underlying5 w2) trodAll_mk0)))) (fun _ _ => rfl) rfl
    (hg.frame _) hg.2.1 (ok_one (by kernel_rfl) rfl (okWide_bool_mk Try.underlying4 _))⟩

theorem over : Rows.fnBearerTokenInsertOneByteRow.holds Try.pinned (OpenSpec.ofChange Rows.fnBearerTokenInsertOneByteSpec) :=
  OpenClaim.holds_of_wide 4 Try.f4 rfl rfl rfl rfl rfl rfl rfl ⟨rfl, rfl, rfl, rfl, rfl⟩ rfl rfl rfl rfl rfl (by kernel_rfl) Try.func4 (by kernel_rfl)
    (of_decide_eq_true (by kernel_rfl)) (by unfold Func.isWrapper; first | (rw [if_pos (by decide +kernel)]; kernel_rfl) | (rw [if_neg (by decide +kernel)]; exact ⟨rfl, rfl⟩))
    (fun os started H enc _ => lifted os started H enc)

end insert

theorem insert_proved : Rows.FnBearerTokenInsertOneByteSaid := insert.over
#print axioms insert_proved
end Go.Proofs.Qxb6630893a
