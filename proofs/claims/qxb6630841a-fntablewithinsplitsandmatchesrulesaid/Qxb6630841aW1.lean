import Derived.Test.Qxb6630841aL0
import Derived.WalkSpells
import Derived.Deep.QuietTactic
import Derived.BigQuiet
import Derived.Outline
import Derived.Deep.RegionWith
namespace Go.Proofs.Qxb6630841a
open Go.RowKit

def BoolPost (w : World) (e : Ending) (w' : World) : Prop := ∃ r : Bool, e = .returned (.bool r) ∧ w' = w

theorem bytes3 (a : Option Addr) (n cap : Nat) (k : Int) (w : World) (hn : n ≤ maxLen) : Calls Try.prog 5 #[.slice a n cap, .int .i64 k] w (BoolPost w) := by
  unfold maxLen at hn
  go_enter Try.func5, Try.ntmps5
  go_wp2
  all_goals (go_ret; exact ⟨_, rfl, rfl⟩)

theorem bytes4 (a : Option Addr) (n cap : Nat) (w : World) (hn : n ≤ maxLen) : Calls Try.prog 9 #[.slice a n cap] w (BoolPost w) := by
  unfold maxLen at hn
  go_enter Try.func9, Try.ntmps9
  go_wp2
  all_goals (go_ret; exact ⟨_, rfl, rfl⟩)

set_option maxRecDepth 100000 in
theorem nsec_any (b : Nat) (x : Int) (w : World) (h0 : 0 ≤ x) (h1 : x < 1000000000) (hc : w.cell? ⟨b, 0, none⟩ = some (.int .u64 x)) :
    Calls Try.prog 21 #[.pointer (some ⟨b, 0, none⟩)] w fun e w' => e = .returned (.int .i32 x) ∧ w' = w := by
  have e1 := and_mask x h0 h1
  go_enter Try.func21, Try.ntmps21
  go_wp2
  go_ret
  exact ⟨rfl, rfl⟩

set_option maxRecDepth 100000 in
theorem sec_any (b : Nat) (x y : Int) (w : World) (h0 : 0 ≤ x) (h1 : x < 1000000000) (hc : w.cell? ⟨b, 0, none⟩ = some (.int .u64 x)) (hc1 : w.cell? ⟨b, 1, none⟩ = some (.int .i64 y)) :
    Calls Try.prog 25 #[.pointer (some ⟨b, 0, none⟩)] w fun e w' => e = .returned (.int .i64 y) ∧ w' = w := by
  have e1 := and_mono x h0 h1
  go_enter Try.func25, Try.ntmps25
  go_wp2
  go_ret
  exact ⟨rfl, rfl⟩

set_option maxRecDepth 100000 in
theorem addSec_any (b : Nat) (x d : Int) (w : World) (h0 : 0 ≤ x) (h1 : x < 1000000000) (hd0 : -10000000000 ≤ d) (hd1 : d ≤ 10000000000) (hc : w.cell? ⟨b, 0, none⟩ = some (.int .u64 x)) (hc1 : w.cell? ⟨b, 1, none⟩ = some (.int .i64 0)) (hf : w.frozen? ⟨b, 1, none⟩ = false) :
    Calls Try.prog 22 #[.pointer (some ⟨b, 0, none⟩), .int .i64 d] w fun e w' => e = .returned (.tuple #[]) ∧ w' = w.setCell ⟨b, 1, none⟩ (.int .i64 d) := by
  have e1 := and_mono x h0 h1
  go_enter Try.func22, Try.ntmps22
  go_wp2
  go_end0
  exact ⟨rfl, rfl⟩

/-- The two words of the time that lies ns behind the zero time. -/
def tw (ns : Int) : Int := ns % 1000000000
def te (ns : Int) : Int := ns / 1000000000

set_option maxRecDepth 100000 in
set_option maxHeartbeats 1000000 in
theorem add_pos (ns : Int) (w : World) (h1 : -9223372036854775808 ≤ ns) (h2 : ns ≤ 9223372036854775807) (h3 : 0 ≤ ns) :
    Calls Try.prog 15 #[.agg #[.int .u64 0, .int .i64 0, .pointer none], .int .i64 ns] w fun e w' => e = .returned (.agg #[.int .u64 (ns % 1000000000), .int .i64 (ns / 1000000000), .pointer none]) ∧ Below w.heap.size w w' := by
  have a0 := andNot0
  have hm0 : 0 ≤ ns % 1000000000 := by omega
  have hm1 : ns % 1000000000 < 1000000000 := by omega
  have hd0 : -10000000000 ≤ ns / 1000000000 := by omega
  have hd1 : ns / 1000000000 ≤ 10000000000 := by omega
  have o0 := or_zero (ns % 1000000000) hm0 hm1
  have o1 := and_mono (ns % 1000000000) hm0 hm1
  go_enter Try.func15, Try.ntmps15
  go_wp2_with (first
    | (go_at_call 21; refine (nsec_any _ 0 _ (by omega) (by omega) (by go_simp)).mono ?_; rintro e w' ⟨rfl, rfl⟩)
    | (go_at_call 22; refine (addSec_any _ (ns % 1000000000) (ns / 1000000000) _ hm0 hm1 hd0 hd1 (by go_simp) (by go_simp) (by go_simp)).mono ?_; rintro e w' ⟨rfl, rfl⟩))
  refine bodyPost_ret (v := .agg #[.int .u64 (ns % 1000000000), .int .i64 (ns / 1000000000), .pointer none]) (by simp [results, Try.results15, go_sem]) rfl ⟨rfl, ?_⟩
  exact ((Below.refl _ _).alloc (Nat.le_refl _) _).alloc (by simp) _

theorem tdiv_bd (ns : Int) (h1 : -9223372036854775808 ≤ ns) (h2 : ns ≤ 9223372036854775807) : -9223372037 ≤ ns.tdiv 1000000000 ∧ ns.tdiv 1000000000 ≤ 9223372037 ∧ -1000000000 < ns.tmod 1000000000 ∧ ns.tmod 1000000000 < 1000000000 ∧ 1000000000 * ns.tdiv 1000000000 + ns.tmod 1000000000 = ns ∧ (ns < 0 → ns.tmod 1000000000 ≤ 0) := by
  have e := Int.mul_tdiv_add_tmod ns 1000000000
  by_cases h : 0 ≤ ns
  · have a := Int.tmod_nonneg 1000000000 h
    have b := Int.tmod_lt_of_pos ns (show (0 : Int) < 1000000000 by omega)
    omega
  · have hb := Int.tmod_lt_of_pos (-ns) (show (0 : Int) < 1000000000 by omega)
    have ha := Int.tmod_nonneg 1000000000 (show 0 ≤ -ns by omega)
    rw [Int.neg_tmod] at ha hb
    omega

set_option maxRecDepth 100000 in
set_option maxHeartbeats 1000000 in
theorem add_neg (ns : Int) (w : World) (h1 : -9223372036854775808 ≤ ns) (h2 : ns ≤ 9223372036854775807) (h3 : ns < 0) :
    Calls Try.prog 15 #[.agg #[.int .u64 0, .int .i64 0, .pointer none], .int .i64 ns] w fun e w' => e = .returned (.agg #[.int .u64 (ns % 1000000000), .int .i64 (ns / 1000000000), .pointer none]) ∧ Below w.heap.size w w' := by
  have a0 := andNot0
  obtain ⟨b1, b2, b3, b4, b5, b6⟩ := tdiv_bd ns h1 h2
  have b7 := b6 h3
  clear b6
  by_cases h4 : ns.tmod 1000000000 < 0
  · have o0 := or_zero (ns.tmod 1000000000 + 1000000000) (by omega) (by omega)
    have o1 := and_mono (ns.tmod 1000000000 + 1000000000) (by omega) (by omega)
    have HE : Hid (ns.tmod 1000000000 + 1000000000 = ns % 1000000000 ∧ ns.tdiv 1000000000 - 1 = ns / 1000000000) := (by omega : ns.tmod 1000000000 + 1000000000 = ns % 1000000000 ∧ ns.tdiv 1000000000 - 1 = ns / 1000000000)
    clear b5
    go_enter Try.func15, Try.ntmps15
    go_wp2_with (first
      | (go_at_call 21; refine (nsec_any _ 0 _ (by omega) (by omega) (by go_simp)).mono ?_; rintro e w' ⟨rfl, rfl⟩)
      | (go_at_call 22; refine (addSec_any _ (ns.tmod 1000000000 + 1000000000) (ns.tdiv 1000000000 - 1) _ (by omega) (by omega) (by omega) (by omega) (by go_simp) (by go_simp) (by go_simp)).mono ?_; rintro e w' ⟨rfl, rfl⟩))
    rw [← HE.out.1, ← HE.out.2]
    refine bodyPost_ret (v := .agg #[.int .u64 (ns.tmod 1000000000 + 1000000000), .int .i64 (ns.tdiv 1000000000 - 1), .pointer none]) (by simp [results, Try.results15, go_sem]) rfl ⟨rfl, ?_⟩
    exact ((Below.refl _ _).alloc (Nat.le_refl _) _).alloc (by simp) _
  · have o0 := or_zero (ns.tmod 1000000000) (by omega) (by omega)
    have o1 := and_mono (ns.tmod 1000000000) (by omega) (by omega)
    have HE : Hid (ns.tmod 1000000000 = ns % 1000000000 ∧ ns.tdiv 1000000000 = ns / 1000000000) := (by omega : ns.tmod 1000000000 = ns % 1000000000 ∧ ns.tdiv 1000000000 = ns / 1000000000)
    clear b5
    go_enter Try.func15, Try.ntmps15
    go_wp2_with (first
      | (go_at_call 21; refine (nsec_any _ 0 _ (by omega) (by omega) (by go_simp)).mono ?_; rintro e w' ⟨rfl, rfl⟩)
      | (go_at_call 22; refine (addSec_any _ (ns.tmod 1000000000) (ns.tdiv 1000000000) _ (by omega) (by omega) (by omega) (by omega) (by go_simp) (by go_simp) (by go_simp)).mono ?_; rintro e w' ⟨rfl, rfl⟩))
    rw [← HE.out.1, ← HE.out.2]
    refine bodyPost_ret (v := .agg #[.int .u64 (ns.tmod 1000000000), .int .i64 (ns.tdiv 1000000000), .pointer none]) (by simp [results, Try.results15, go_sem]) rfl ⟨rfl, ?_⟩
    exact ((Below.refl _ _).alloc (Nat.le_refl _) _).alloc (by simp) _

set_option maxRecDepth 100000 in
set_option maxHeartbeats 1000000 in
theorem time_any (ns : Int) (w : World) (h1 : -9223372036854775808 ≤ ns) (h2 : ns ≤ 9223372036854775807) :
    Calls Try.prog 11 #[.int .i64 ns] w fun e w' => e = .returned (.agg #[.int .u64 (tw ns), .int .i64 (te ns), .pointer none]) ∧ Below w.heap.size w w' := by
  have hadd : ∀ W : World, Calls Try.prog 15 #[.agg #[.int .u64 0, .int .i64 0, .pointer none], .int .i64 ns] W fun e w' => e = .returned (.agg #[.int .u64 (tw ns), .int .i64 (te ns), .pointer none]) ∧ Below W.heap.size W w' := by
    intro W
    by_cases h3 : 0 ≤ ns
    · exact add_pos ns W h1 h2 h3
    · exact add_neg ns W h1 h2 (by omega)
  generalize tw ns = x at hadd ⊢
  generalize te ns = y at hadd ⊢
  go_enter Try.func11, Try.ntmps11
  go_wp2_with (go_at_call 15; refine (hadd _).mono ?_; rintro e w1 ⟨rfl, hb⟩; obtain ⟨c0, c1, c2, cf⟩ := row3 ((hb.block w.heap.size (by simp; omega)).trans ((Below.heap_alloc _ _ _ (by simp)).trans (heap_alloc_new w _))))
  refine bodyPost_ret (v := .agg #[.int .u64 x, .int .i64 y, .pointer none]) (by simp [results, Try.results11, go_sem, c0, c1, c2]) rfl ⟨rfl, ?_⟩
  have hbw : Below w.heap.size w w1 := (((Below.refl _ _).alloc (Nat.le_refl _) _).alloc (by simp) _).trans (hb.mono (by simp; omega))
  exact ((hbw.setCell (p := ⟨w.heap.size, 0, none⟩) (Nat.le_refl _) _).setCell (p := ⟨w.heap.size, 1, none⟩) (Nat.le_refl _) _).setCell (p := ⟨w.heap.size, 2, none⟩) (Nat.le_refl _) _

set_option maxRecDepth 100000 in
theorem isZero_any (x y : Int) (w : World) : Calls Try.prog 16 #[.agg #[.int .u64 x, .int .i64 y, .pointer none]] w fun e w' => e = .returned (.bool (x == 0 && y == 0)) ∧ Below w.heap.size w w' := by
  cases h : (x == 0)
  · go_enter Try.func16, Try.ntmps16
    go_wp2
    go_ret
    exact ⟨rfl, (Below.refl _ _).alloc (Nat.le_refl _) _⟩
  · go_enter Try.func16, Try.ntmps16
    go_wp2
    go_ret
    exact ⟨rfl, (Below.refl _ _).alloc (Nat.le_refl _) _⟩

/-- After, on times with no monotonic reading. -/
def aft (x y x2 y2 : Int) : Bool := decide (y2 < y) || (y == y2 && decide (x2 < x))

set_option maxRecDepth 100000 in
set_option maxHeartbeats 1000000 in
theorem after_any (x y x2 y2 : Int) (w : World) (h0 : 0 ≤ x) (h1 : x < 1000000000) (k0 : 0 ≤ x2) (k1 : x2 < 1000000000) :
    Calls Try.prog 24 #[.agg #[.int .u64 x, .int .i64 y, .pointer none], .agg #[.int .u64 x2, .int .i64 y2, .pointer none]] w fun e w' => e = .returned (.bool (aft x y x2 y2)) ∧ Below w.heap.size w w' := by
  have m0 : bits .and .u64 (bits .and .u64 x x2) 9223372036854775808 = 0 := and_both x x2 h0 h1 k0 k1
  cases hy : decide (y2 < y) with
  | true =>
    have hy' : y2 < y := of_decide_eq_true hy
    have HP : Hid (aft x y x2 y2 = true) := (by simp [aft, hy'] : aft x y x2 y2 = true)
    clear hy
    go_enter Try.func24, Try.ntmps24
    go_wp2_with (first
      | (go_at_call_of 25 (Value.pointer (some ⟨w.heap.size, 0, none⟩)); refine (sec_any w.heap.size x y _ h0 h1 (by go_simp) (by go_simp)).mono ?_; rintro e w' ⟨rfl, rfl⟩)
      | (go_at_call 25; refine (sec_any (w.heap.size + 1) x2 y2 _ k0 k1 (by go_simp) (by go_simp)).mono ?_; rintro e w' ⟨rfl, rfl⟩))
    go_ret
    exact ⟨by rw [HP.out]; rfl, ((Below.refl _ _).alloc (Nat.le_refl _) _).alloc (by simp) _⟩
  | false =>
    have hy' : ¬ y2 < y := of_decide_eq_false hy
    cases hq : (y == y2) with
    | true =>
      have HP : Hid (aft x y x2 y2 = (decide (y2 < y) || decide (x2 < x))) := (by simp [aft, hq] : aft x y x2 y2 = (decide (y2 < y) || decide (x2 < x)))
      clear hy
      go_enter Try.func24, Try.ntmps24
      go_wp2_with (first
        | (go_at_call_of 25 (Value.pointer (some ⟨w.heap.size, 0, none⟩)); refine (sec_any w.heap.size x y _ h0 h1 (by go_simp) (by go_simp)).mono ?_; rintro e w' ⟨rfl, rfl⟩)
        | (go_at_call 25; refine (sec_any (w.heap.size + 1) x2 y2 _ k0 k1 (by go_simp) (by go_simp)).mono ?_; rintro e w' ⟨rfl, rfl⟩)
        | (go_at_call_of 21 (Value.pointer (some ⟨w.heap.size, 0, none⟩)); refine (nsec_any w.heap.size x _ h0 h1 (by go_simp)).mono ?_; rintro e w' ⟨rfl, rfl⟩)
        | (go_at_call 21; refine (nsec_any (w.heap.size + 1) x2 _ k0 k1 (by go_simp)).mono ?_; rintro e w' ⟨rfl, rfl⟩))
      go_ret
      exact ⟨by rw [HP.out]; rfl, ((Below.refl _ _).alloc (Nat.le_refl _) _).alloc (by simp) _⟩
    | false =>
      have HP : Hid (aft x y x2 y2 = decide (y2 < y)) := (by simp [aft, hq] : aft x y x2 y2 = decide (y2 < y))
      clear hy
      go_enter Try.func24, Try.ntmps24
      go_wp2_with (first
        | (go_at_call_of 25 (Value.pointer (some ⟨w.heap.size, 0, none⟩)); refine (sec_any w.heap.size x y _ h0 h1 (by go_simp) (by go_simp)).mono ?_; rintro e w' ⟨rfl, rfl⟩)
        | (go_at_call 25; refine (sec_any (w.heap.size + 1) x2 y2 _ k0 k1 (by go_simp) (by go_simp)).mono ?_; rintro e w' ⟨rfl, rfl⟩))
      go_ret
      exact ⟨by rw [HP.out]; rfl, ((Below.refl _ _).alloc (Nat.le_refl _) _).alloc (by simp) _⟩

/-- A row of the table, as zzBuild makes it: of the batch only two dates; the other cells hold zero values. -/
def rowC (g r d : Int) (t : Bool) (pa : Option Addr) (m pc : Nat) : Array Value :=
  #[.string ⟨#[]⟩, .int .i64 0, .bool false, .pointer none, .slice none 0 0, .pointer none, .pointer none, .int .u64 (tw g), .int .i64 (te g), .pointer none, .int .u64 (tw r), .int .i64 (te r), .pointer none, .int .u64 (tw d), .int .i64 (te d), .pointer none, .bool t, .slice pa m pc]

theorem row18 {w : World} {b ty : Nat} {g r d : Int} {t : Bool} {pa : Option Addr} {m pc : Nat} (h : w.heap[b]? = some (.cells (rowC g r d t pa m pc) ty (0, 0))) :
    w.cell? ⟨b, 0, none⟩ = some (.string ⟨#[]⟩) ∧ w.cell? ⟨b, 1, none⟩ = some (.int .i64 0) ∧ w.cell? ⟨b, 2, none⟩ = some (.bool false) ∧ w.cell? ⟨b, 3, none⟩ = some (.pointer none) ∧ w.cell? ⟨b, 4, none⟩ = some (.slice none 0 0) ∧
    w.cell? ⟨b, 5, none⟩ = some (.pointer none) ∧ w.cell? ⟨b, 6, none⟩ = some (.pointer none) ∧ w.cell? ⟨b, 7, none⟩ = some (.int .u64 (tw g)) ∧ w.cell? ⟨b, 8, none⟩ = some (.int .i64 (te g)) ∧ w.cell? ⟨b, 9, none⟩ = some (.pointer none) ∧
    w.cell? ⟨b, 10, none⟩ = some (.int .u64 (tw r)) ∧ w.cell? ⟨b, 11, none⟩ = some (.int .i64 (te r)) ∧ w.cell? ⟨b, 12, none⟩ = some (.pointer none) ∧ w.cell? ⟨b, 13, none⟩ = some (.int .u64 (tw d)) ∧ w.cell? ⟨b, 14, none⟩ = some (.int .i64 (te d)) ∧
    w.cell? ⟨b, 15, none⟩ = some (.pointer none) ∧ w.cell? ⟨b, 16, none⟩ = some (.bool t) ∧ w.cell? ⟨b, 17, none⟩ = some (.slice pa m pc) := by
  refine ⟨?_, ?_, ?_, ?_, ?_, ?_, ?_, ?_, ?_, ?_, ?_, ?_, ?_, ?_, ?_, ?_, ?_, ?_⟩ <;> rw [cell_row h] <;> rfl

theorem tw_bd (n : Int) : 0 ≤ tw n ∧ tw n < 1000000000 := by unfold tw; omega
theorem tz_iff (n : Int) : ((tw n == 0) && (te n == 0)) = (n == 0) := by
  rw [Bool.eq_iff_iff]
  simp only [Bool.and_eq_true, beq_iff_eq]
  unfold tw te
  omega
theorem aft_iff (m n : Int) : aft (tw m) (te m) (tw n) (te n) = decide (n < m) := by
  rw [Bool.eq_iff_iff]
  simp only [aft, Bool.or_eq_true, Bool.and_eq_true, beq_iff_eq, decide_eq_true_eq]
  unfold tw te
  omega

theorem isZero_t (n : Int) (w : World) : Calls Try.prog 16 #[.agg #[.int .u64 (tw n), .int .i64 (te n), .pointer none]] w fun e w' => e = .returned (.bool (n == 0)) ∧ Below w.heap.size w w' := by
  rw [← tz_iff]; exact isZero_any _ _ w
theorem after_t (m n : Int) (w : World) : Calls Try.prog 24 #[.agg #[.int .u64 (tw m), .int .i64 (te m), .pointer none], .agg #[.int .u64 (tw n), .int .i64 (te n), .pointer none]] w fun e w' => e = .returned (.bool (decide (n < m))) ∧ Below w.heap.size w w' := by
  rw [← aft_iff]; exact after_any _ _ _ _ w (tw_bd m).1 (tw_bd m).2 (tw_bd n).1 (tw_bd n).2

set_option maxRecDepth 100000 in
set_option maxHeartbeats 1000000 in
theorem granted_any (g r d : Int) (t : Bool) (pa : Option Addr) (m pc : Nat) (w : World) :
    Calls Try.prog 12 #[.agg (rowC g r d t pa m pc)] w fun e w' => e = .returned (.bool (!(g == 0))) ∧ Below w.heap.size w w' := by
  have hc := isZero_t g
  unfold rowC
  go_enter Try.func12, Try.ntmps12
  go_wp2_with (go_at_call 16; refine (hc _).mono ?_; rintro e w1 ⟨rfl, hb1⟩)
  go_ret
  exact ⟨rfl, ((Below.refl _ _).alloc (Nat.le_refl _) _).trans (hb1.mono (by simp))⟩

set_option maxRecDepth 100000 in
set_option maxHeartbeats 1000000 in
theorem permitted_any (g r d : Int) (t : Bool) (pa : Option Addr) (m pc : Nat) (w : World) :
    Calls Try.prog 17 #[.agg (rowC g r d t pa m pc)] w fun e w' => e = .returned (.bool (t && ((m : Int) == 0))) ∧ Below w.heap.size w w' := by
  unfold rowC
  cases t
  all_goals
    go_enter Try.func17, Try.ntmps17
    go_wp2
    go_ret
    exact ⟨rfl, (Below.refl _ _).alloc (Nat.le_refl _) _⟩

theorem row_box {w w1 : World} {g r d : Int} {t : Bool} {pa : Option Addr} {m pc : Nat} (hb : Below (w.alloc (.cells (rowC g r d t pa m pc) 44)).heap.size (w.alloc (.cells (rowC g r d t pa m pc) 44)) w1) :
    w1.heap[w.heap.size]? = some (.cells (rowC g r d t pa m pc) 44 (0, 0)) := (hb.block w.heap.size (by simp)).trans (heap_alloc_new w _)

set_option maxRecDepth 100000 in
set_option maxHeartbeats 1000000 in
theorem glate_any (g r d : Int) (t : Bool) (pa : Option Addr) (m pc : Nat) (w : World) :
    Calls Try.prog 18 #[.agg (rowC g r d t pa m pc)] w fun e w' => e = .returned (.bool (!(d == 0) && decide (d < g))) ∧ Below w.heap.size w w' := by
  have hc := isZero_t d
  have ha := after_t g d
  have hrow := fun (w1 : World) (hb : Below (w.alloc (.cells (rowC g r d t pa m pc) 44)).heap.size (w.alloc (.cells (rowC g r d t pa m pc) 44)) w1) => row18 (row_box hb)
  unfold rowC at hrow ⊢
  cases hd : (d == 0) with
  | true =>
    rw [hd] at hc
    go_enter Try.func18, Try.ntmps18
    go_wp2_with (go_at_call 16; refine (hc _).mono ?_; rintro e w1 ⟨rfl, hb1⟩)
    go_ret
    exact ⟨rfl, ((Below.refl _ _).alloc (Nat.le_refl _) _).trans (hb1.mono (by simp))⟩
  | false =>
    rw [hd] at hc
    go_enter Try.func18, Try.ntmps18
    go_wp2_with (first
      | (go_at_call 16; refine (hc _).mono ?_; rintro e w1 ⟨rfl, hb1⟩; obtain ⟨r0, r1, r2, r3, r4, r5, r6, r7, r8, r9, r10, r11, r12, r13, r14, r15, r16, r17⟩ := hrow w1 hb1)
      | (go_at_call 24; refine (ha _).mono ?_; rintro e w2 ⟨rfl, hb2⟩))
    go_ret
    exact ⟨rfl, (((Below.refl _ _).alloc (Nat.le_refl _) _).trans (hb1.mono (by simp))).trans (hb2.mono (by have := hb1.size; simp at this; omega))⟩
set_option maxRecDepth 100000 in
set_option maxHeartbeats 1000000 in
theorem rlate_any (g r d : Int) (t : Bool) (pa : Option Addr) (m pc : Nat) (w : World) :
    Calls Try.prog 19 #[.agg (rowC g r d t pa m pc)] w fun e w' => e = .returned (.bool (!(d == 0) && decide (d < r))) ∧ Below w.heap.size w w' := by
  have hc := isZero_t d
  have ha := after_t r d
  have hrow := fun (w1 : World) (hb : Below (w.alloc (.cells (rowC g r d t pa m pc) 44)).heap.size (w.alloc (.cells (rowC g r d t pa m pc) 44)) w1) => row18 (row_box hb)
  unfold rowC at hrow ⊢
  cases hd : (d == 0) with
  | true =>
    rw [hd] at hc
    go_enter Try.func19, Try.ntmps19
    go_wp2_with (go_at_call 16; refine (hc _).mono ?_; rintro e w1 ⟨rfl, hb1⟩)
    go_ret
    exact ⟨rfl, ((Below.refl _ _).alloc (Nat.le_refl _) _).trans (hb1.mono (by simp))⟩
  | false =>
    rw [hd] at hc
    go_enter Try.func19, Try.ntmps19
    go_wp2_with (first
      | (go_at_call 16; refine (hc _).mono ?_; rintro e w1 ⟨rfl, hb1⟩; obtain ⟨r0, r1, r2, r3, r4, r5, r6, r7, r8, r9, r10, r11, r12, r13, r14, r15, r16, r17⟩ := hrow w1 hb1)
      | (go_at_call 24; refine (ha _).mono ?_; rintro e w2 ⟨rfl, hb2⟩))
    go_ret
    exact ⟨rfl, (((Below.refl _ _).alloc (Nat.le_refl _) _).trans (hb1.mono (by simp))).trans (hb2.mono (by have := hb1.size; simp at this; omega))⟩
end Go.Proofs.Qxb6630841a
