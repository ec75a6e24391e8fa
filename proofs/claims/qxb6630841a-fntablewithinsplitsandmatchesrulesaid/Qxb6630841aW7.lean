import Derived.Test.Qxb6630841aW6
namespace Go.Proofs.Qxb6630841a
open Go.RowKit

theorem all_cut (L : List Rw) (k : Nat) : L.all ok = ((L.take k).all ok && (L.drop k).all ok) := by
  rw [← List.all_append, List.take_append_drop]

theorem TCells.take {w : World} {b : Nat} {pa : Option Addr} {L : List Rw} (h : TCells w b 0 pa L) (k : Nat) : TCells w b 0 pa (L.take k) := by
  intro j x hj
  rw [List.getElem?_take] at hj
  split at hj
  · exact h j x hj
  · cases hj
theorem TCells.drop {w : World} {b : Nat} {pa : Option Addr} {L : List Rw} (h : TCells w b 0 pa L) (k : Nat) : TCells w b (k * 18) pa (L.drop k) := by
  intro j x hj i v hv
  rw [List.getElem?_drop] at hj
  have := h (k + j) x hj i v hv
  rw [← this]
  congr 2
  omega

/-- What zzBuild hands back. -/
def Built (w : World) (sa : Option Addr) (n : Nat) (pa : Option Addr) (L : List Rw) : Prop :=
  n = L.length ∧ (0 < n → ∃ b, sa = some ⟨b, 0, none⟩ ∧ b < w.heap.size ∧ TCells w b 0 pa L)
theorem Built.below {w w' : World} {sa : Option Addr} {n : Nat} {pa : Option Addr} {L : List Rw} (h : Built w sa n pa L) (hb : Below w.heap.size w w') : Built w' sa n pa L := by
  refine ⟨h.1, fun h0 => ?_⟩
  obtain ⟨b, h1, h2, h3⟩ := h.2 h0
  exact ⟨b, h1, Nat.lt_of_lt_of_le h2 hb.size, h3.below h2 hb⟩

theorem table_B (sa : Option Addr) (n sc : Nat) (pa : Option Addr) (L : List Rw) (w : World) (hn : n ≤ 16384) (hB : Built w sa n pa L) :
    Calls Try.prog 7 #[.agg #[.slice sa n sc]] w fun e w' => e = .returned (.bool (L.all ok)) ∧ Below w.heap.size w w' :=
  table_any sa n sc pa L w hn hB.1 (fun h0 => by
    obtain ⟨b, h1, h2, h3⟩ := hB.2 h0
    exact ⟨b, 0, h1, h2, h3⟩)

theorem cell1 {w : World} {b t : Nat} {v : Value} (h : w.heap[b]? = some (.cells #[v] t (0, 0))) : w.cell? ⟨b, 0, none⟩ = some v := by rw [cell_row h]; rfl

section
variable {w1 : World} {v1 v2 v3 : Value}
theorem three_below : Below w1.heap.size w1 (((w1.alloc (.cells #[v1] 27)).alloc (.cells #[v2] 27)).alloc (.cells #[v3] 27)) :=
  (((Below.refl _ _).alloc (Nat.le_refl _) _).alloc (by simp) _).alloc (by simp; omega) _
theorem three_at {W : World} (hb : Below (((w1.alloc (.cells #[v1] 27)).alloc (.cells #[v2] 27)).alloc (.cells #[v3] 27)).heap.size (((w1.alloc (.cells #[v1] 27)).alloc (.cells #[v2] 27)).alloc (.cells #[v3] 27)) W) :
    W.cell? ⟨w1.heap.size + 1, 0, none⟩ = some v2 ∧ W.cell? ⟨w1.heap.size + 1 + 1, 0, none⟩ = some v3 := by
  have e1 : (w1.alloc (.cells #[v1] 27)).heap.size = w1.heap.size + 1 := by simp
  have e2 : ((w1.alloc (.cells #[v1] 27)).alloc (.cells #[v2] 27)).heap.size = w1.heap.size + 1 + 1 := by simp
  have h2 := heap_alloc_new (w1.alloc (.cells #[v1] 27)) (.cells #[v2] 27)
  have h3 := heap_alloc_new ((w1.alloc (.cells #[v1] 27)).alloc (.cells #[v2] 27)) (.cells #[v3] 27)
  rw [e1] at h2
  rw [e2] at h3
  refine ⟨cell1 ((hb.block _ (by simp)).trans ((Below.heap_alloc _ _ _ (by simp)).trans h2)), cell1 ((hb.block _ (by simp)).trans h3)⟩
end

theorem table_tail (b k n : Nat) (A : Addr) (pa : Option Addr) (L : List Rw) (w : World) (hn : n ≤ 16384) (hB : Built w (some ⟨b, 0, none⟩) n pa L) (hA : 0 < n - k → A = ⟨b, k * 18, none⟩) :
    Calls Try.prog 7 #[.agg #[.slice (some A) (n - k) (n - k)]] w fun e w' => e = .returned (.bool ((L.drop k).all ok)) ∧ Below w.heap.size w w' :=
  table_any (some A) (n - k) (n - k) pa (L.drop k) w (by omega) (by show n - k = _; rw [hB.1, List.length_drop]) (fun h0 => by
    obtain ⟨b', h1, h2, h3⟩ := hB.2 (by omega)
    cases h1
    exact ⟨b, k * 18, by rw [hA h0], h2, h3.drop k⟩)
theorem table_head (b k n : Nat) (pa : Option Addr) (L : List Rw) (w : World) (hn : n ≤ 16384) (hk : k ≤ n) (hB : Built w (some ⟨b, 0, none⟩) n pa L) :
    Calls Try.prog 7 #[.agg #[.slice (some ⟨b, 0, none⟩) k n]] w fun e w' => e = .returned (.bool ((L.take k).all ok)) ∧ Below w.heap.size w w' :=
  table_any (some ⟨b, 0, none⟩) k n pa (L.take k) w (by omega) (by show k = _; rw [List.length_take, ← hB.1]; omega) (fun h0 => by
    obtain ⟨b', h1, h2, h3⟩ := hB.2 (by omega)
    cases h1
    exact ⟨b, 0, rfl, h2, h3.take k⟩)

set_option maxRecDepth 100000 in
set_option maxHeartbeats 1000000 in
theorem split_any (a : Option Addr) (n cap : Nat) (kI : Int) (L : List Rw) (w : World) (hA : ArgR w a n cap L) (hn : n ≤ maxLen) :
    Calls Try.prog 3 #[.slice a n cap, .int .i64 kI] w fun e w' => e = .returned (.bool true) ∧ Below w.heap.size w w' := by
  have c5 := bytes3 a n cap kI w hn
  have HA : Hid (ArgR w a n cap L) := hA
  unfold maxLen at hn
  clear hA
  by_cases hn1 : n ≤ 16384
  · by_cases hk : 0 ≤ kI ∧ kI ≤ n
    · obtain ⟨k, rfl⟩ : ∃ k : Nat, kI = k := ⟨kI.toNat, by omega⟩
      have hkn : k ≤ n := by omega
      have hk0 : (0 : Int) ≤ (k : Int) := by omega
      have hk1 : (k : Int) ≤ (n : Int) := by omega
      clear hk
      have c6 := build_L a n cap L w HA.out hn1
      have HK : Hid (n = L.length) := HA.out.1
      go_enter Try.func3, Try.ntmps3
      go_wp2_with fail
      refine c5.mono ?_
      rintro e w' ⟨rb, rfl, rfl⟩
      cases rb with
      | false =>
        go_wp2
        go_ret
        exact ⟨rfl, Below.refl _ _⟩
      | true =>
        clear c5
        go_wp2_with fail
        refine c6.mono ?_
        rintro e w1 ⟨sa, pa, rfl, hb1, hT, hno, hso⟩
        have HB1 : Hid (Below w'.heap.size w' w1) := hb1
        have HBu : Hid (Built w1 sa n pa L) := ⟨HK.out, hT⟩
        have HA1 : Hid (ArgR w1 a n cap L) := HA.out.below hb1
        clear c6 hb1 hT
        cases sa with
        | none =>
          have h0 := hno rfl
          subst h0
          obtain rfl : k = 0 := by omega
          have hL : L = [] := List.length_eq_zero_iff.1 HK.out.symm
          subst hL
          have tt : ∀ W : World, Calls Try.prog 7 #[.agg #[.slice none 0 0]] W fun e w' => e = .returned (.bool true) ∧ Below W.heap.size W w' := fun W => table_any none 0 0 pa [] W (by omega) rfl (by omega)
          clear hno hso HBu
          go_wp2_with fail
          have HB3 := three_below (w1 := w1) (v1 := .slice none 0 0) (v2 := .slice none 0 0) (v3 := .slice none 0 0)
          refine (tt _).mono ?_
          rintro e w4 ⟨rfl, hb4⟩
          obtain ⟨d2, d3⟩ := three_at hb4
          have HB4 : Hid (Below w1.heap.size w1 w4) := below_chain HB3 hb4
          clear HB3
          go_wp2_with fail
          refine (tt _).mono ?_
          rintro e w5 ⟨rfl, hb5⟩
          obtain ⟨_, d5⟩ := three_at (below_chain hb4 hb5)
          have HB5 : Hid (Below w1.heap.size w1 w5) := below_chain HB4.out hb5
          clear hb4 hb5 d2 d3
          go_wp2_with fail
          refine (tt _).mono ?_
          rintro e w6 ⟨rfl, hb6⟩
          have HB6 : Hid (Below w1.heap.size w1 w6) := below_chain HB5.out hb6
          have t4 : Calls Try.prog 8 #[.slice a 0 cap] w6 fun e w' => e = .returned (.bool true) ∧ Below w6.heap.size w6 w' := allWithin a 0 cap [] w6 (HA1.out.below HB6.out) (by omega)
          clear tt hb6 d5
          go_wp2_with (go_at_call 8; refine t4.mono ?_; rintro e w7 ⟨rfl, hb7⟩)
          go_ret
          exact ⟨rfl, below_chain (below_chain HB1.out HB6.out) hb7⟩
        | some ad =>
          obtain ⟨b, rfl⟩ := hso ad rfl
          obtain ⟨A, hAd, HAd⟩ : ∃ A : Addr, (if n = k then some (⟨b, 0, none⟩ : Addr) else some ⟨b, k * 18, none⟩) = some A ∧ Hid (0 < n - k → A = ⟨b, k * 18, none⟩) := by
            by_cases h : n = k
            · exact ⟨_, by rw [if_pos h], fun h2 => absurd h2 (by omega)⟩
            · exact ⟨_, by rw [if_neg h], fun _ => rfl⟩
          clear hno hso
          have hcut := all_cut L k
          obtain ⟨P, hP⟩ : ∃ P, P = L.all ok := ⟨_, rfl⟩
          obtain ⟨Q, hQ⟩ : ∃ Q, Q = (L.take k).all ok := ⟨_, rfl⟩
          obtain ⟨R, hR⟩ : ∃ R, R = (L.drop k).all ok := ⟨_, rfl⟩
          rw [← hP, ← hQ, ← hR] at hcut
          have HC : Hid (P = (Q && R)) := hcut
          have HPE : Hid (P = L.all ok) := hP
          have HQE : Hid (Q = (L.take k).all ok) := hQ
          have HRE : Hid (R = (L.drop k).all ok) := hR
          clear hcut hP hQ hR
          go_wp2_with fail
          have HB3 := three_below (w1 := w1) (v1 := .slice (some ⟨b, 0, none⟩) n n) (v2 := .slice (some ⟨b, 0, none⟩) k n) (v3 := .slice (some A) (n - k) (n - k))
          have t1 := table_B (some ⟨b, 0, none⟩) n n pa L _ hn1 (HBu.out.below HB3)
          rw [← HPE.out] at t1
          refine t1.mono ?_
          rintro e w4 ⟨rfl, hb4⟩
          obtain ⟨d2, d3⟩ := three_at hb4
          have HB4 : Hid (Below w1.heap.size w1 w4) := below_chain HB3 hb4
          have t2 := table_head b k n pa L w4 hn1 hkn (HBu.out.below HB4.out)
          rw [← HQE.out] at t2
          clear t1 HB3
          go_wp2_with fail
          refine t2.mono ?_
          rintro e w5 ⟨rfl, hb5⟩
          obtain ⟨_, d5⟩ := three_at (below_chain hb4 hb5)
          have HB5 : Hid (Below w1.heap.size w1 w5) := below_chain HB4.out hb5
          have t3 := table_tail b k n A pa L w5 hn1 (HBu.out.below HB5.out) HAd.out
          rw [← HRE.out] at t3
          clear t2 hb4 hb5 d2 d3
          go_wp2_with fail
          refine t3.mono ?_
          rintro e w6 ⟨rfl, hb6⟩
          have HB6 : Hid (Below w1.heap.size w1 w6) := below_chain HB5.out hb6
          have t4 := allWithin a n cap L w6 (HA1.out.below HB6.out) hn1
          rw [← HPE.out] at t4
          clear t3 hb6 d5
          cases Q with
          | false =>
            obtain rfl : P = false := HC.out
            go_wp2_with (go_at_call 8; refine t4.mono ?_; rintro e w7 ⟨rfl, hb7⟩)
            go_ret
            exact ⟨rfl, below_chain (below_chain HB1.out HB6.out) hb7⟩
          | true =>
            cases R with
            | false =>
              obtain rfl : P = false := HC.out
              go_wp2_with (go_at_call 8; refine t4.mono ?_; rintro e w7 ⟨rfl, hb7⟩)
              go_ret
              exact ⟨rfl, below_chain (below_chain HB1.out HB6.out) hb7⟩
            | true =>
              obtain rfl : P = true := HC.out
              go_wp2_with (go_at_call 8; refine t4.mono ?_; rintro e w7 ⟨rfl, hb7⟩)
              go_ret
              exact ⟨rfl, below_chain (below_chain HB1.out HB6.out) hb7⟩
    · by_cases hk2 : kI < 0
      · go_enter Try.func3, Try.ntmps3
        go_wp2_with fail
        refine c5.mono ?_
        rintro e w' ⟨rb, rfl, rfl⟩
        cases rb
        all_goals
          go_wp2
          go_ret
          exact ⟨rfl, Below.refl _ _⟩
      · have hk3 : (n : Int) < kI := by omega
        clear hk
        go_enter Try.func3, Try.ntmps3
        go_wp2_with fail
        refine c5.mono ?_
        rintro e w' ⟨rb, rfl, rfl⟩
        cases rb
        all_goals
          go_wp2
          go_ret
          exact ⟨rfl, Below.refl _ _⟩
  · have hn2 : (16384 : Int) < (n : Int) := by omega
    go_enter Try.func3, Try.ntmps3
    go_wp2_with fail
    refine c5.mono ?_
    rintro e w' ⟨rb, rfl, rfl⟩
    cases rb
    all_goals
      go_wp2
      go_ret
      exact ⟨rfl, Below.refl _ _⟩
end Go.Proofs.Qxb6630841a
