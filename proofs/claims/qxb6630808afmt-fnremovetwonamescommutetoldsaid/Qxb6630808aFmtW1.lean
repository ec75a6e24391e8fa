import Derived.Test.Qxb6630808aFmtRows
import Derived.WalkKit
import Derived.WalkSpells
import Derived.Deep.QuietTactic
import Derived.BigQuiet
import Derived.Outline
namespace Go.Proofs.Qxb6630808aFmt
open Go.RowKit

abbrev Src := ByteArray × ByteArray × ByteArray × ByteArray

/-- The cells of the sources lie there. -/
def SrcCells (w : World) (b off n : Nat) (Z : Nat → Src) : Prop :=
  ∀ j, j < n → w.cell? ⟨b, off + j * 4, none⟩ = some (.string (Z j).1) ∧ w.cell? ⟨b, off + j * 4 + 1, none⟩ = some (.string (Z j).2.1) ∧
    w.cell? ⟨b, off + j * 4 + 2, none⟩ = some (.string (Z j).2.2.1) ∧ w.cell? ⟨b, off + j * 4 + 3, none⟩ = some (.string (Z j).2.2.2)

def sumN (Z : Nat → Src) : Nat → Nat
  | 0 => 0
  | k + 1 => sumN Z k + (Z k).1.size

theorem sum_end {Z : Nat → Src} {k m n : Nat} {z : Int} (HS : Hid (sumN Z k = m)) (h : k = n) (h1 : (m : Int) ≤ z) (h2 : z ≤ 1048576) : sumN Z n ≤ 1048576 := by
  subst h; have := HS.out; omega
theorem sum_step {Z : Nat → Src} {k m : Nat} {s0 s1 s2 s3 : ByteArray} (HS : Hid (sumN Z k = m)) (HZ : Hid (Z k = (s0, s1, s2, s3))) : Hid (sumN Z (k + 1) = m + s0.size) := by
  have h1 := HS.out; have h2 := HZ.out; show sumN Z (k + 1) = _; rw [sumN, h1, h2]
/-- What a size test answers: some bool; if it is true the names are short. -/
def SizePost (Z : Nat → Src) (n : Nat) (w : World) (e : Ending) (w' : World) : Prop :=
  ∃ r : Bool, e = .returned (.bool r) ∧ Below w.heap.size w w' ∧ (r = true → sumN Z n ≤ 1048576)

theorem sizePost_false {Z : Nat → Src} {n : Nat} {w w' : World} (h : Below w.heap.size w w') : SizePost Z n w (.returned (.bool false)) w' := ⟨false, rfl, h, by simp⟩
theorem sizePost_true {Z : Nat → Src} {n : Nat} {w w' : World} (h : Below w.heap.size w w') (hs : sumN Z n ≤ 1048576) : SizePost Z n w (.returned (.bool true)) w' := ⟨true, rfl, h, fun _ => hs⟩

set_option maxRecDepth 100000 in
set_option maxHeartbeats 1000000 in
theorem bytes_any (ver : Int) (a : Option Addr) (n cap : Nat) (Z : Nat → Src) (d nm : ByteArray) (w : World) (hn : n ≤ maxLen)
    (hd : d.size ≤ maxLen) (hnm : nm.size ≤ maxLen)
    (hz : ∀ j, j < n → (Z j).1.size ≤ maxLen ∧ (Z j).2.1.size ≤ maxLen ∧ (Z j).2.2.1.size ≤ maxLen ∧ (Z j).2.2.2.size ≤ maxLen)
    (ha : 0 < n → ∃ b off, a = some ⟨b, off, none⟩ ∧ SrcCells w b off n Z) :
    Calls Tryf.prog 5 #[.int .i64 ver, .slice a n cap, .string d, .string nm] w (SizePost Z n w) := by
  unfold maxLen at *
  go_enter Tryf.func5, Tryf.ntmps5
  go_wp2
  · go_ret
    exact sizePost_false (Below.refl _ _)
  · go_loop [9, 10] (fun t i => ∃ (k m : Nat) (z : Int), k ≤ n ∧ i = .int .i64 k ∧ t = .int .i64 z ∧ (m : Int) ≤ z ∧ z ≤ 1048576 ∧ Hid (sumN Z k = m)) (fun _ i => n - (intOf i).toNat)
    case atStart => exact ⟨0, 0, n, Nat.zero_le _, rfl, rfl, by omega, by omega, rfl⟩
    case round =>
      obtain ⟨k, m, z, hk, rfl, rfl, hz1, hz2, HS⟩ := hrel
      by_cases hlt : k < n
      · obtain ⟨b, off, rfl, hc⟩ := ha (by omega)
        obtain ⟨c0, c1, c2, c3⟩ := hc k hlt
        obtain ⟨z0, z1, z2, z3⟩ := hz k hlt
        have hlt' : (k : Int) < (n : Int) := by omega
        clear ha hc hz
        generalize hZ : Z k = q at *
        obtain ⟨s0, s1, s2, s3⟩ := q
        have HZ : Hid (Z k = (s0, s1, s2, s3)) := hZ
        clear hZ
        simp only at c0 c1 c2 c3 z0 z1 z2 z3
        go_wp2
        all_goals first
          | (go_ret; exact sizePost_false (Below.refl _ _))
          | (go_round
             case rel => exact ⟨k + 1, m + s0.size, _, by omega, by go_num, rfl, by omega, by omega, sum_step HS HZ⟩
             case measure => simp [intOf]; omega)
      · go_wp2
        all_goals go_ret
        all_goals first | exact sizePost_false (Below.refl _ _) | exact sizePost_true (Below.refl _ _) (sum_end HS (by omega) hz1 hz2)
set_option maxRecDepth 100000 in
set_option maxHeartbeats 1000000 in
theorem bytes2_any (ver : Int) (a : Option Addr) (n cap : Nat) (Z : Nat → Src) (d nm nb : ByteArray) (w : World) (hn : n ≤ maxLen)
    (hd : d.size ≤ maxLen) (hnm : nm.size ≤ maxLen) (hnb : nb.size ≤ maxLen)
    (hz : ∀ j, j < n → (Z j).1.size ≤ maxLen ∧ (Z j).2.1.size ≤ maxLen ∧ (Z j).2.2.1.size ≤ maxLen ∧ (Z j).2.2.2.size ≤ maxLen)
    (ha : 0 < n → ∃ b off, a = some ⟨b, off, none⟩ ∧ SrcCells w b off n Z) :
    Calls Tryf.prog 10 #[.int .i64 ver, .slice a n cap, .string d, .string nm, .string nb] w (SizePost Z n w) := by
  unfold maxLen at *
  go_enter Tryf.func10, Tryf.ntmps10
  go_wp2
  · go_ret
    exact sizePost_false (Below.refl _ _)
  · go_loop [11, 12] (fun t i => ∃ (k m : Nat) (z : Int), k ≤ n ∧ i = .int .i64 k ∧ t = .int .i64 z ∧ (m : Int) ≤ z ∧ z ≤ 1048576 ∧ Hid (sumN Z k = m)) (fun _ i => n - (intOf i).toNat)
    case atStart => exact ⟨0, 0, n, Nat.zero_le _, rfl, rfl, by omega, by omega, rfl⟩
    case round =>
      obtain ⟨k, m, z, hk, rfl, rfl, hz1, hz2, HS⟩ := hrel
      by_cases hlt : k < n
      · obtain ⟨b, off, rfl, hc⟩ := ha (by omega)
        obtain ⟨c0, c1, c2, c3⟩ := hc k hlt
        obtain ⟨z0, z1, z2, z3⟩ := hz k hlt
        have hlt' : (k : Int) < (n : Int) := by omega
        clear ha hc hz
        generalize hZ : Z k = q at *
        obtain ⟨s0, s1, s2, s3⟩ := q
        have HZ : Hid (Z k = (s0, s1, s2, s3)) := hZ
        clear hZ
        simp only at c0 c1 c2 c3 z0 z1 z2 z3
        go_wp2
        all_goals first
          | (go_ret; exact sizePost_false (Below.refl _ _))
          | (go_round
             case rel => exact ⟨k + 1, m + s0.size, _, by omega, by go_num, rfl, by omega, by omega, sum_step HS HZ⟩
             case measure => simp [intOf]; omega)
      · go_wp2
        all_goals go_ret
        all_goals first | exact sizePost_false (Below.refl _ _) | exact sizePost_true (Below.refl _ _) (sum_end HS (by omega) hz1 hz2)
end Go.Proofs.Qxb6630808aFmt
