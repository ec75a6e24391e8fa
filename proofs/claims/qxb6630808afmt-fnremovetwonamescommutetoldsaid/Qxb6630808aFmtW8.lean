import Derived.Test.Qxb6630808aFmtW7
import Derived.Deep.RegionWith
namespace Go.Proofs.Qxb6630808aFmt
open Go.RowKit Go.Extern.Stop Go.Stop Go.Extern

set_option maxHeartbeats 1000000 in
set_option maxRecDepth 100000 in
theorem index_hit (cb sb cap n i : Nat) (L : List Src) (nm : ByteArray) (y : Src) (w : World) (hr : RowL w 30 sb cap L) (HN : Hid (n = L.length)) (hn : n ≤ 4096) (hcb : cb < w.heap.size) (h1 : w.cell? ⟨cb, 1, none⟩ = some (.slice (some ⟨sb, 0, none⟩) n cap))
    (hi : L[i]? = some y) (hy : isN nm y = true) (hmiss : ∀ j x, j < i → L[j]? = some x → isN nm x = false) :
    Calls Tryf.prog 12 #[.pointer (some ⟨cb, 0, none⟩), .string nm] w fun e w' => e = .returned (.tuple #[.int .i64 i, .nilIface]) ∧ Below w.heap.size w w' := by
  have hb0 : Below w.heap.size w (w.alloc (.cells #[.string nm] 9)) := (Below.refl _ _).alloc (Nat.le_refl _) _
  have hcall := idx_hit sb 0 cap w.heap.size i L nm y (w.alloc (.cells #[.string nm] 9)) (by have := HN.out; omega) (by have := hr.lt; simp; omega) (by simp) (hr.cells.below hr.lt hb0) (by simp) hi hy hmiss
  rw [← HN.out] at hcall
  have hi0 : ¬ ((i : Int) < 0) := by omega
  clear hi hy hmiss hr
  go_enter Tryf.func12, Tryf.ntmps12
  go_wp2_with (go_at_call 15; refine hcall.mono ?_; rintro e w' ⟨rfl, hb'⟩)
  go_ret2
  exact ⟨rfl, hb0.trans (hb'.mono (by simp))⟩

set_option maxHeartbeats 1000000 in
set_option maxRecDepth 100000 in
theorem index_miss_core (F : Interp) (cb : Nat) (sv : Value) (nm : ByteArray) (w : World) (hF : F.answers w.tape) (hcb : cb < w.heap.size) (h1 : w.cell? ⟨cb, 1, none⟩ = some sv)
    (hidx : Calls Tryf.prog 15 #[sv, .func (.func 16) #[] #[.pointer (some ⟨w.heap.size, 0, none⟩)]] (w.alloc (.cells #[.string nm] 9)) fun e w' => e = .returned (.int .i64 (-1)) ∧ Below (w.alloc (.cells #[.string nm] 9)).heap.size (w.alloc (.cells #[.string nm] 9)) w')
    (hnames : ∀ W, Below w.heap.size w W → Calls Tryf.prog 18 #[.pointer (some ⟨cb, 0, none⟩)] W fun e w' => ∃ s : ByteArray, e = .returned (.string s) ∧ Below W.heap.size W w') :
    Calls Tryf.prog 12 #[.pointer (some ⟨cb, 0, none⟩), .string nm] w fun e w' => ∃ a : Addr, e = .returned (.tuple #[.int .i64 0, .iface 54 (.pointer (some a))]) ∧ Below w.heap.size w w' := by
  have hb0 : Below w.heap.size w (w.alloc (.cells #[.string nm] 9)) := (Below.refl _ _).alloc (Nat.le_refl _) _
  go_enter Tryf.func12, Tryf.ntmps12
  go_wp2_with (go_at_call 15; refine hidx.mono ?_; rintro e w1 ⟨rfl, hb1⟩)
  have hbw : Below w.heap.size w w1 := hb0.trans (hb1.mono (by simp))
  have hc : w1.cell? ⟨w.heap.size, 0, none⟩ = some (.string nm) := (hb1.cell (p := ⟨w.heap.size, 0, none⟩) (by simp)).trans (by simp)
  have hz : w.heap.size < w1.heap.size := by have := hb1.size; simp at this; omega
  clear hidx h1
  have hnm1 := hnames w1.drew hbw.drew
  have herr : ∀ (w2 : World) (s : ByteArray), Hid (Below w1.drew.heap.size w1.drew w2) → Calls Tryf.prog 17 #[.string ⟨#[110, 111, 32, 115, 111, 117, 114, 99, 101, 32, 110, 97, 109, 101, 100, 32, 37, 115, 59, 32, 37, 115]⟩, .slice (some ⟨w2.heap.size, 0, none⟩) 2 2] (w2.alloc (.cells #[.iface 9 (.string nm), .iface 9 (.string s)] 20)) fun e w' => e = .returned (.iface 54 (.pointer (some ⟨w2.heap.size + 1, 0, none⟩))) ∧ Hid (Below w.heap.size w w') := by
    intro w2 s hb2
    have hb3 : Below w.heap.size w w2 := hbw.drew.trans (hb2.out.mono (Nat.le_of_lt hz))
    have h := errorf_any F nm s w2.heap.size (w2.alloc (.cells #[.iface 9 (.string nm), .iface 9 (.string s)] 20)) (by show F.answers w2.tape; rw [hb3.tape]; exact hF) (by simp) (by simp)
    refine h.mono ?_
    rintro e w' ⟨rfl, hb'⟩
    exact ⟨by simp, (hb3.alloc hb3.size _).trans (hb'.mono (by have := hb3.size; simp; omega))⟩
  clear hnames hF
  go_region_with (first
    | (go_at_call 18; refine hnm1.mono ?_; rintro e w2 ⟨s, rfl, hb2⟩; have hc2 : w2.cell? ⟨w.heap.size, 0, none⟩ = some (.string nm) := (hb2.cell (p := ⟨w.heap.size, 0, none⟩) hz).trans hc; have HB2 : Hid (Below w1.drew.heap.size w1.drew w2) := hb2; clear hb2)
    | (go_at_call 17; refine (herr _ _ (by assumption)).mono ?_; rintro e w3 ⟨rfl, HB3⟩))
  all_goals
    go_wp2
    go_ret2
    exact ⟨_, rfl, Hid.out (by assumption)⟩
end Go.Proofs.Qxb6630808aFmt
