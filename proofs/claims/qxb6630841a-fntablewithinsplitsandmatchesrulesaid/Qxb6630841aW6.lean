import Derived.Test.Qxb6630841aW5
namespace Go.Proofs.Qxb6630841a
open Go.RowKit
set_option linter.unusedSimpArgs false

def ruleRow (g r d : Int) (t : Bool) (m : Nat) : Bool := if (g == 0) = true then true else if (!t || ((m : Int) != 0)) = true then false else if (d == 0) = true then true else (decide (g ≤ d) && decide (r ≤ d))

theorem rule_ok (g r d : Int) (t : Bool) (m : Nat) : ruleRow g r d t m = okRow g r d t m := by
  unfold ruleRow okRow wRow
  cases t <;> cases h1 : (g == 0) <;> cases h2 : ((m : Int) == 0) <;> cases h3 : (d == 0) <;> simp [bne, h1, h2, h3]
  have e1 : decide (g ≤ d) = !decide (d < g) := by by_cases h : g ≤ d <;> simp [h] <;> omega
  have e2 : decide (r ≤ d) = !decide (d < r) := by by_cases h : r ≤ d <;> simp [h] <;> omega
  rw [e1, e2]

set_option maxRecDepth 100000 in
set_option maxHeartbeats 1000000 in
theorem rule_any (g r d : Int) (t : Bool) (m : Nat) (w : World) (_hm : m ≤ 255) :
    Calls Try.prog 14 #[.agg #[.int .i64 g, .int .i64 r, .int .i64 d, .bool t, .int .u8 (m : Int)]] w fun e w' => e = .returned (.bool (okRow g r d t m)) ∧ Below w.heap.size w w' := by
  rw [← rule_ok]
  unfold ruleRow
  cases h1 : (g == 0) with
  | true =>
    go_enter Try.func14, Try.ntmps14
    go_wp2
    go_ret
    exact ⟨rfl, (Below.refl _ _).alloc (Nat.le_refl _) _⟩
  | false =>
    cases t with
    | false =>
      go_enter Try.func14, Try.ntmps14
      go_wp2
      go_ret
      exact ⟨rfl, (Below.refl _ _).alloc (Nat.le_refl _) _⟩
    | true =>
      cases h2 : ((m : Int) != 0) with
      | true =>
        go_enter Try.func14, Try.ntmps14
        go_wp2
        go_ret
        exact ⟨rfl, (Below.refl _ _).alloc (Nat.le_refl _) _⟩
      | false =>
        cases h3 : (d == 0) with
        | true =>
          go_enter Try.func14, Try.ntmps14
          go_wp2
          go_ret
          exact ⟨rfl, (Below.refl _ _).alloc (Nat.le_refl _) _⟩
        | false =>
          by_cases h4 : g ≤ d
          · have HR : Hid ((decide (g ≤ d) && decide (r ≤ d)) = decide (r ≤ d)) := (by simp [h4] : (decide (g ≤ d) && decide (r ≤ d)) = decide (r ≤ d))
            generalize (decide (g ≤ d) && decide (r ≤ d)) = res at HR ⊢
            go_enter Try.func14, Try.ntmps14
            go_wp2
            go_ret
            exact ⟨by simp [HR.out], (Below.refl _ _).alloc (Nat.le_refl _) _⟩
          · have HR : Hid ((decide (g ≤ d) && decide (r ≤ d)) = false) := (by simp [h4] : (decide (g ≤ d) && decide (r ≤ d)) = false)
            have h5 : d < g := by omega
            generalize (decide (g ≤ d) && decide (r ≤ d)) = res at HR ⊢
            clear h4
            go_enter Try.func14, Try.ntmps14
            go_wp2
            go_ret
            exact ⟨by simp [HR.out], (Below.refl _ _).alloc (Nat.le_refl _) _⟩

/-- What the argument is: nil, or a slice whose cells are L's. -/
def ArgR (w : World) (a : Option Addr) (n cap : Nat) (L : List Rw) : Prop :=
  n = L.length ∧ InFits L ∧ ((a = none ∧ n = 0 ∧ cap = 0) ∨ ∃ ad, a = some ad ∧ (0 < n → ∃ b off, ad = ⟨b, off, none⟩ ∧ b < w.heap.size ∧ InCells w b off L))

theorem ArgR.below {w w' : World} {a : Option Addr} {n cap : Nat} {L : List Rw} (h : ArgR w a n cap L) (hb : Below w.heap.size w w') : ArgR w' a n cap L := by
  obtain ⟨h1, h2, h3⟩ := h
  refine ⟨h1, h2, ?_⟩
  rcases h3 with h3 | ⟨ad, h3, h4⟩
  · exact .inl h3
  · refine .inr ⟨ad, h3, fun h0 => ?_⟩
    obtain ⟨b, off, h5, h6, h7⟩ := h4 h0
    exact ⟨b, off, h5, Nat.lt_of_lt_of_le h6 hb.size, h7.below h6 hb⟩

theorem ArgR.at {w : World} {a : Option Addr} {n cap : Nat} {L : List Rw} (h : ArgR w a n cap L) (h0 : 0 < n) : ∃ b off, a = some ⟨b, off, none⟩ ∧ b < w.heap.size ∧ InCells w b off L := by
  obtain ⟨h1, h2, h3⟩ := h
  rcases h3 with ⟨_, h3, _⟩ | ⟨ad, h3, h4⟩
  · omega
  · obtain ⟨b, off, rfl, h5, h6⟩ := h4 h0
    exact ⟨b, off, h3, h5, h6⟩

theorem build_L (a : Option Addr) (n cap : Nat) (L : List Rw) (w : World) (hA : ArgR w a n cap L) (hn : n ≤ 16384) :
    Calls Try.prog 6 #[.slice a n cap] w fun e w' => ∃ sa pa, e = .returned (.slice sa n n) ∧ Below w.heap.size w w' ∧ (0 < n → ∃ b, sa = some ⟨b, 0, none⟩ ∧ b < w'.heap.size ∧ TCells w' b 0 pa L) ∧ (sa = none → n = 0) ∧ (∀ ad, sa = some ad → ∃ b, ad = ⟨b, 0, none⟩) := by
  obtain ⟨h1, h2, h3⟩ := hA
  rcases h3 with ⟨rfl, rfl, rfl⟩ | ⟨ad, rfl, h4⟩
  · refine (build_nil w).mono ?_
    rintro e w' ⟨rfl, rfl⟩
    exact ⟨none, none, rfl, Below.refl _ _, by omega, fun _ => rfl, fun _ h => by cases h⟩
  · refine (build_some ad n cap L w hn h1 h2 h4).mono ?_
    rintro e w' ⟨rfl, hb, hP⟩
    exact ⟨_, _, rfl, hb, fun _ => ⟨_, rfl, hP.lt, hP.cells h1⟩, fun h => (by cases h), fun x hx => ⟨_, by cases hx; rfl⟩⟩

set_option maxRecDepth 100000 in
set_option maxHeartbeats 1000000 in
theorem allWithin (a : Option Addr) (n cap : Nat) (L : List Rw) (w : World) (hA : ArgR w a n cap L) (hn : n ≤ 16384) :
    Calls Try.prog 8 #[.slice a n cap] w fun e w' => e = .returned (.bool (L.all ok)) ∧ Below w.heap.size w w' := by
  have HA : Hid (ArgR w a n cap L) := hA
  clear hA
  go_enter Try.func8, Try.ntmps8
  go_wp2
  go_loopw [3] (fun i wr => ∃ k : Nat, k ≤ n ∧ i = .int .i64 k ∧ Hid (Below w.heap.size w wr) ∧ Hid (∀ (j : Nat) (x : Rw), j < k → L[j]? = some x → ok x = true)) (fun i _ => n - (intOf i).toNat)
  case atStart => exact ⟨0, Nat.zero_le _, rfl, Below.refl _ _, fun j x hj => absurd hj (Nat.not_lt_zero _)⟩
  case round =>
    obtain ⟨k, hk, rfl, HB, HO⟩ := hrel
    by_cases hlt : k < n
    · have hltI : (k : Int) < (n : Int) := by omega
      have hA2 := HA.out.below HB.out
      obtain ⟨x, hx⟩ : ∃ x, L[k]? = some x := ⟨_, List.getElem?_eq_getElem (show k < L.length by have := hA2.1; omega)⟩
      obtain ⟨b, off, rfl, hbw, hcl⟩ := hA2.at (by omega)
      obtain ⟨c0, c1, c2, c3, c4⟩ := hcl k x hx
      obtain ⟨_, _, _, hm⟩ := hA2.2.1 x (List.mem_of_getElem? hx)
      have HX : Hid (L[k]? = some x) := hx
      have hok : Hid (ok x = okRow x.1 x.2.1 x.2.2.1 x.2.2.2.1 x.2.2.2.2) := (rfl : ok x = okRow x.1 x.2.1 x.2.2.1 x.2.2.2.1 x.2.2.2.2)
      have cr := fun W => rule_any x.1 x.2.1 x.2.2.1 x.2.2.2.1 x.2.2.2.2 W hm
      generalize okRow x.1 x.2.1 x.2.2.1 x.2.2.2.1 x.2.2.2.2 = z at hok cr
      obtain ⟨g, r, d, t, m⟩ := x
      simp only at c0 c1 c2 c3 c4 cr
      clear hA2 hcl hx hm
      cases z with
      | true =>
        go_wp2_with (go_at_call 14; refine (cr _).mono ?_; rintro e w1 ⟨rfl, hb1⟩)
        go_roundw
        case rel => exact ⟨k + 1, by omega, by go_num, HB.out.trans (hb1.mono HB.out.size), all_step HO.out HX.out hok.out⟩
        case measure => simp [intOf]; omega
      | false =>
        go_wp2_with (go_at_call 14; refine (cr _).mono ?_; rintro e w1 ⟨rfl, hb1⟩)
        go_ret
        exact ⟨by rw [all_bad HX.out hok.out]; rfl, HB.out.trans (hb1.mono HB.out.size)⟩
    · go_wp2
      go_ret
      exact ⟨by rw [all_good HO.out (by have := HA.out.1; omega)]; rfl, HB.out⟩

/-- Granted rows lie on permitted days. -/
def prm (x : Rw) : Bool := (x.1 == 0) || (x.2.2.2.1 && ((x.2.2.2.2 : Int) == 0))

theorem prm_step {L : List Rw} {k : Nat} {x : Rw} (h : ∀ (j : Nat) (x : Rw), j < k → L[j]? = some x → prm x = true) (hx : L[k]? = some x) (ho : prm x = true) : ∀ (j : Nat) (x : Rw), j < k + 1 → L[j]? = some x → prm x = true := by
  intro j y hj hy
  by_cases e : j = k
  · subst e; rw [hx] at hy; cases hy; exact ho
  · exact h j y (by omega) hy
theorem prm_bad {L : List Rw} {k : Nat} {x : Rw} (hx : L[k]? = some x) (ho : prm x = false) : L.all prm = false := by
  rw [List.all_eq_false]
  exact ⟨x, List.mem_of_getElem? hx, by simp [ho]⟩
theorem prm_good {L : List Rw} {k : Nat} (h : ∀ (j : Nat) (x : Rw), j < k → L[j]? = some x → prm x = true) (hk : L.length ≤ k) : L.all prm = true := by
  rw [List.all_eq_true]
  intro x hx
  obtain ⟨j, hj⟩ := List.getElem?_of_mem hx
  exact h j x (by have := (List.getElem?_eq_some_iff.1 hj).1; omega) hj

set_option maxRecDepth 100000 in
set_option maxHeartbeats 1000000 in
theorem allPermitted (a : Option Addr) (n cap : Nat) (L : List Rw) (w : World) (hA : ArgR w a n cap L) (hn : n ≤ 16384) :
    Calls Try.prog 10 #[.slice a n cap] w fun e w' => e = .returned (.bool (L.all prm)) ∧ w' = w := by
  have HA : Hid (ArgR w a n cap L) := hA
  clear hA
  go_enter Try.func10, Try.ntmps10
  go_wp2
  go_loop [3] (fun i => ∃ k : Nat, k ≤ n ∧ i = .int .i64 k ∧ Hid (∀ (j : Nat) (x : Rw), j < k → L[j]? = some x → prm x = true)) (fun i => n - (intOf i).toNat)
  case atStart => exact ⟨0, Nat.zero_le _, rfl, fun j x hj => absurd hj (Nat.not_lt_zero _)⟩
  case round =>
    obtain ⟨k, hk, rfl, HO⟩ := hrel
    by_cases hlt : k < n
    · have hltI : (k : Int) < (n : Int) := by omega
      have hA2 := HA.out
      obtain ⟨x, hx⟩ : ∃ x, L[k]? = some x := ⟨_, List.getElem?_eq_getElem (show k < L.length by have := hA2.1; omega)⟩
      obtain ⟨b, off, rfl, hbw, hcl⟩ := hA2.at (by omega)
      obtain ⟨c0, c1, c2, c3, c4⟩ := hcl k x hx
      have HX : Hid (L[k]? = some x) := hx
      obtain ⟨g, r, d, t, m⟩ := x
      simp only at c0 c1 c2 c3 c4
      clear hA2 hcl hx c1 c2
      cases h1 : (g != 0) with
      | false =>
        have hok : Hid (prm (g, r, d, t, m) = true) := (by simp [prm, bne] at h1 ⊢; exact .inl h1 : prm (g, r, d, t, m) = true)
        go_wp2
        go_round
        case rel => exact ⟨k + 1, by omega, by go_num, prm_step HO.out HX.out hok.out⟩
        case measure => simp [intOf]; omega
      | true =>
        cases t with
        | false =>
          have hok : Hid (prm (g, r, d, false, m) = false) := (by simp [prm, bne] at h1 ⊢; exact h1 : prm (g, r, d, false, m) = false)
          go_wp2
          go_ret
          exact ⟨by rw [prm_bad HX.out hok.out]; rfl, rfl⟩
        | true =>
          cases h2 : ((m : Int) != 0) with
          | true =>
            have hok : Hid (prm (g, r, d, true, m) = false) := (by simp [prm, bne] at h1 h2 ⊢; exact ⟨h1, h2⟩ : prm (g, r, d, true, m) = false)
            go_wp2
            go_ret
            exact ⟨by rw [prm_bad HX.out hok.out]; rfl, rfl⟩
          | false =>
            have hok : Hid (prm (g, r, d, true, m) = true) := (by simp [prm, bne] at h2 ⊢; exact .inr h2 : prm (g, r, d, true, m) = true)
            go_wp2
            go_round
            case rel => exact ⟨k + 1, by omega, by go_num, prm_step HO.out HX.out hok.out⟩
            case measure => simp [intOf]; omega
    · go_wp2
      go_ret
      exact ⟨by rw [prm_good HO.out (by have := HA.out.1; omega)]; rfl, rfl⟩
end Go.Proofs.Qxb6630841a
