import Derived.Test.Qxb6630808aFmtW2
namespace Go.Proofs.Qxb6630808aFmt
open Go.RowKit

def encS (x : Src) : List Value := [.string x.1, .string x.2.1, .string x.2.2.1, .string x.2.2.2]

set_option maxRecDepth 100000 in
theorem same_eq (s0 s1 s2 s3 : ByteArray) (w : World) :
    Calls Tryf.prog 9 #[.agg #[.string s0, .string s1, .string s2, .string s3], .agg #[.string s0, .string s1, .string s2, .string s3]] w fun e w' => e = .returned (.bool true) ∧ Below w.heap.size w w' := by
  go_enter Tryf.func9, Tryf.ntmps9
  go_wp2
  go_ret
  exact ⟨rfl, ((Below.refl _ _).alloc (Nat.le_refl _) _).alloc (by simp) _⟩

set_option maxRecDepth 100000 in
theorem sameSource_eq (s0 s1 s2 s3 : ByteArray) (w : World) :
    Calls Tryf.prog 14 #[.agg #[.string s0, .string s1, .string s2, .string s3], .agg #[.string s0, .string s1, .string s2, .string s3]] w fun e w' => e = .returned (.bool true) ∧ Below w.heap.size w w' := by
  go_enter Tryf.func14, Tryf.ntmps14
  go_wp2
  go_ret
  exact ⟨rfl, ((Below.refl _ _).alloc (Nat.le_refl _) _).alloc (by simp) _⟩

set_option maxRecDepth 100000 in
theorem clo_any (s0 s1 s2 s3 nm : ByteArray) (nb : Nat) (w : World) (hb : nb < w.heap.size) (hc : w.cell? ⟨nb, 0, none⟩ = some (.string nm)) :
    Calls Tryf.prog 16 #[.agg #[.string s0, .string s1, .string s2, .string s3], .pointer (some ⟨nb, 0, none⟩)] w fun e w' => e = .returned (.bool (s0.toList == nm.toList)) ∧ Below w.heap.size w w' := by
  go_enter Tryf.func16, Tryf.ntmps16
  go_wp2
  go_ret
  exact ⟨rfl, ((Below.refl _ _).alloc (Nat.le_refl _) _)⟩
end Go.Proofs.Qxb6630808aFmt
