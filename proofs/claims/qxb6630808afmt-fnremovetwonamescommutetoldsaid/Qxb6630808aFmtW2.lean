import Derived.Test.Qxb6630808aFmtW1
namespace Go.Proofs.Qxb6630808aFmt
open Go.RowKit

theorem SrcCells.below {w w' : World} {b off n : Nat} {Z : Nat → Src} (h : SrcCells w b off n Z) (hb : b < w.heap.size) (hB : Below w.heap.size w w') : SrcCells w' b off n Z := by
  intro j hj
  obtain ⟨c0, c1, c2, c3⟩ := h j hj
  exact ⟨(hB.cell (p := ⟨b, _, none⟩) hb).trans c0, (hB.cell (p := ⟨b, _, none⟩) hb).trans c1, (hB.cell (p := ⟨b, _, none⟩) hb).trans c2, (hB.cell (p := ⟨b, _, none⟩) hb).trans c3⟩

theorem below_drewN' {B : Nat} {a w : World} (h : Below B a w) (n : Nat) : Below B a (w.drewN n) := h.trans ⟨rfl, rfl, rfl, Nat.le_refl _, fun _ _ => rfl⟩

set_option maxRecDepth 100000 in
set_option maxHeartbeats 1000000 in
theorem size_any (a : Option Addr) (n cap : Nat) (Z : Nat → Src) (d nm nb : ByteArray) (w : World) (hn : n ≤ maxLen)
    (hd : d.size ≤ maxLen) (hnm : nm.size ≤ maxLen) (hnb : nb.size ≤ maxLen)
    (hz : ∀ j, j < n → (Z j).1.size ≤ maxLen ∧ (Z j).2.1.size ≤ maxLen ∧ (Z j).2.2.1.size ≤ maxLen ∧ (Z j).2.2.2.size ≤ maxLen)
    (ha : 0 < n → ∃ b off, a = some ⟨b, off, none⟩ ∧ b < w.heap.size ∧ SrcCells w b off n Z) :
    Calls Tryf.prog 6 #[.slice a n cap, .string d, .string nm, .string nb] w (SizePost Z 0 w) := by
  unfold maxLen at *
  go_enter Tryf.func6, Tryf.ntmps6
  go_wp2
  all_goals first | (go_ret; exact sizePost_false (Below.refl _ _)) | skip
  all_goals
    go_loopw [9, 10] (fun t i wr => ∃ (k : Nat) (z : Int), k ≤ n ∧ i = .int .i64 k ∧ t = .int .i64 z ∧ 0 ≤ z ∧ z ≤ 1048576 ∧ Hid (Below w.heap.size w wr)) (fun _ i _ => n - (intOf i).toNat)
    case atStart => exact ⟨0, _, Nat.zero_le _, rfl, rfl, by omega, by omega, Below.refl _ _⟩
    case round =>
      obtain ⟨k, z, hk, rfl, rfl, hz1, hz2, HB⟩ := hrel
      by_cases hlt : k < n
      · obtain ⟨b, off, rfl, hbw, hc⟩ := ha (by omega)
        obtain ⟨c0, c1, c2, c3⟩ := hc.below hbw HB.out k hlt
        obtain ⟨z0, z1, z2, z3⟩ := hz k hlt
        have hlt' : (k : Int) < (n : Int) := by omega
        clear ha hc hz
        generalize hZ : Z k = q at *
        obtain ⟨s0, s1, s2, s3⟩ := q
        clear hZ
        simp only at c0 c1 c2 c3 z0 z1 z2 z3
        go_wp2
        all_goals first
          | (go_ret; exact sizePost_false HB.out)
          | (go_quiet (fail)
             go_wp2
             all_goals first
               | (go_ret; exact sizePost_false (below_drewN' HB.out _))
               | (go_roundw
                  case rel => exact ⟨k + 1, _, by omega, by go_num, rfl, by omega, by omega, below_drewN' HB.out _⟩
                  case measure => simp [intOf]; omega))
      · go_wp2
        all_goals go_ret
        all_goals first | exact sizePost_true HB.out (Nat.zero_le _)
end Go.Proofs.Qxb6630808aFmt
