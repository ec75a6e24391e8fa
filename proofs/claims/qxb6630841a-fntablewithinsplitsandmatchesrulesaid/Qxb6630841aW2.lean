import Derived.Test.Qxb6630841aW1
import Derived.Deep.MidRow
namespace Go.Proofs.Qxb6630841a
open Go.RowKit

/-- (Row).Within, and the whole test of a row in (Table).Within. -/
def wRow (g r d : Int) (t : Bool) (m : Nat) : Bool := (t && ((m : Int) == 0)) && !(!(d == 0) && decide (d < g)) && !(!(d == 0) && decide (d < r))
def okRow (g r d : Int) (t : Bool) (m : Nat) : Bool := (g == 0) || wRow g r d t m

theorem below_chain {a b c : World} (h : Below a.heap.size a b) (k : Below b.heap.size b c) : Below a.heap.size a c := h.trans (k.mono h.size)

def rowL (g r d : Int) (t : Bool) (pa : Option Addr) (m pc : Nat) : List Value :=
  [.string ⟨#[]⟩, .int .i64 0, .bool false, .pointer none, .slice none 0 0, .pointer none, .pointer none, .int .u64 (tw g), .int .i64 (te g), .pointer none, .int .u64 (tw r), .int .i64 (te r), .pointer none, .int .u64 (tw d), .int .i64 (te d), .pointer none, .bool t, .slice pa m pc]

theorem rowL_len (g r d : Int) (t : Bool) (pa : Option Addr) (m pc : Nat) : (rowL g r d t pa m pc).length = 18 := rfl
theorem rowL_one {g r d : Int} {t : Bool} {pa : Option Addr} {m pc : Nat} : ∀ v ∈ rowL g r d t pa m pc, v.oneCell' = true := by
  intro v hv
  simp only [rowL, List.mem_cons, List.not_mem_nil, or_false] at hv
  rcases hv with rfl | rfl | rfl | rfl | rfl | rfl | rfl | rfl | rfl | rfl | rfl | rfl | rfl | rfl | rfl | rfl | rfl | rfl <;> rfl

theorem Try.size44 : (Try.prog.info? 44).map (·.size) = some 18 := by kernel_rfl

theorem range_row {w : World} {b ty : Nat} {cs : List Value} (h : w.heap[b]? = some (.cells cs.toArray ty (0, 0))) : w.rangeAt b 0 cs := by
  intro j v hv
  rw [Nat.zero_add, cell_row h]
  simpa using hv

/-- A load that its guard lets through. -/
theorem wpList_load_midg {P : Program} {ops : Array Oper} {rest : List Oper} {op : Oper} {a : Act} {w : World} {Q : Exit → Act → World → Prop} (hw : Region.wanted op (yielded ops a.tmps) = true) (ty : TypeId) (x : Operand) (ho : op.op = .load ty x)
    (b o : Nat) (hx : a.eval x = .pointer (some ⟨b, o, none⟩)) (cs : List Value) (d : TypeDesc) (hc : w.rangeAt b o cs)
    (hu : P.underlying ty = some d) (hd : d.isRow = true) (hi : (P.info? ty).map (·.size) = some cs.length)
    (h : wpList P ops Q rest (a.put op.dst (.agg cs.toArray)) w) : wpList P ops Q (op :: rest) a w :=
  wpList_step fun K hK => by rw [if_pos hw]; exact wp_load_mid ty x ho b o hx cs d hc hu hd hi (hK _ _ h)

section
variable (g r d : Int) (t : Bool) (pa : Option Addr) (m pc : Nat) (w : World)

theorem granted_L : Calls Try.prog 12 #[.agg (rowL g r d t pa m pc).toArray] w fun e w' => e = .returned (.bool (!(g == 0))) ∧ Below w.heap.size w w' := granted_any g r d t pa m pc w
theorem permitted_L : Calls Try.prog 17 #[.agg (rowL g r d t pa m pc).toArray] w fun e w' => e = .returned (.bool (t && ((m : Int) == 0))) ∧ Below w.heap.size w w' := permitted_any g r d t pa m pc w
theorem glate_L : Calls Try.prog 18 #[.agg (rowL g r d t pa m pc).toArray] w fun e w' => e = .returned (.bool (!(d == 0) && decide (d < g))) ∧ Below w.heap.size w w' := glate_any g r d t pa m pc w
theorem rlate_L : Calls Try.prog 19 #[.agg (rowL g r d t pa m pc).toArray] w fun e w' => e = .returned (.bool (!(d == 0) && decide (d < r))) ∧ Below w.heap.size w w' := rlate_any g r d t pa m pc w
end

set_option maxRecDepth 100000 in
set_option maxHeartbeats 2000000 in
theorem within_gen (R : List Value) (hl : R.length = 18) (P Q S : Bool) (w : World)
    (hp : ∀ W : World, Calls Try.prog 17 #[.agg R.toArray] W fun e w' => e = .returned (.bool P) ∧ Below W.heap.size W w')
    (hg : ∀ W : World, Calls Try.prog 18 #[.agg R.toArray] W fun e w' => e = .returned (.bool Q) ∧ Below W.heap.size W w')
    (hr : ∀ W : World, Calls Try.prog 19 #[.agg R.toArray] W fun e w' => e = .returned (.bool S) ∧ Below W.heap.size W w') :
    Calls Try.prog 13 #[.agg R.toArray] w fun e w' => e = .returned (.bool (P && !Q && !S)) ∧ Below w.heap.size w w' := by
  have hi : Hid ((Try.prog.info? 44).map (·.size) = some R.length) := (by rw [hl]; exact Try.size44 : (Try.prog.info? 44).map (·.size) = some R.length)
  have h0 : Hid (Below w.heap.size w (w.alloc (.cells R.toArray 44))) := (Below.refl _ _).alloc (Nat.le_refl _) _
  have hrow : ∀ w1 : World, Below (w.alloc (.cells R.toArray 44)).heap.size (w.alloc (.cells R.toArray 44)) w1 → Hid (w1.rangeAt w.heap.size 0 R) := fun w1 hb => range_row ((hb.block w.heap.size (by simp)).trans (heap_alloc_new w _))
  have q0 := hrow _ (Below.refl _ _)
  clear hl
  cases P with
  | false =>
    go_enter Try.func13, Try.ntmps13
    go_wp2_with (first
      | (refine wpList_load_mid rfl 44 (.tmp 1) rfl w.heap.size 0 rfl R _ q0.out Try.underlying44 rfl hi.out ?_)
      | (go_at_call 17; refine (hp _).mono ?_; rintro e w1 ⟨rfl, hb1⟩))
    go_ret
    exact ⟨rfl, h0.out.trans (hb1.mono (by simp))⟩
  | true =>
    cases Q with
    | true =>
      go_enter Try.func13, Try.ntmps13
      go_wp2_with (first
        | (refine wpList_load_mid rfl 44 (.tmp 1) rfl w.heap.size 0 rfl R _ q0.out Try.underlying44 rfl hi.out ?_)
        | (go_at_call 17; refine (hp _).mono ?_; rintro e w1 ⟨rfl, hb1⟩; have q1 := hrow w1 hb1)
        | (refine wpList_load_midg (by rfl) 44 (.tmp 1) rfl w.heap.size 0 rfl R _ q1.out Try.underlying44 rfl hi.out ?_)
        | (go_at_call 18; refine (hg _).mono ?_; rintro e w2 ⟨rfl, hb2⟩))
      go_ret
      exact ⟨rfl, h0.out.trans ((below_chain hb1 hb2).mono (by simp))⟩
    | false =>
      go_enter Try.func13, Try.ntmps13
      go_wp2_with (first
        | (refine wpList_load_mid rfl 44 (.tmp 1) rfl w.heap.size 0 rfl R _ q0.out Try.underlying44 rfl hi.out ?_)
        | (go_at_call 17; refine (hp _).mono ?_; rintro e w1 ⟨rfl, hb1⟩; have q1 := hrow w1 hb1)
        | (refine wpList_load_midg (by rfl) 44 (.tmp 1) rfl w.heap.size 0 rfl R _ (by first | exact q2.out | exact q1.out) Try.underlying44 rfl hi.out ?_)
        | (go_at_call 18; refine (hg _).mono ?_; rintro e w2 ⟨rfl, hb2⟩; have q2 := hrow w2 (below_chain hb1 hb2))
        | (go_at_call 19; refine (hr _).mono ?_; rintro e w3 ⟨rfl, hb3⟩))
      go_ret
      exact ⟨rfl, h0.out.trans ((below_chain (below_chain hb1 hb2) hb3).mono (by simp))⟩

theorem within_L (g r d : Int) (t : Bool) (pa : Option Addr) (m pc : Nat) (w : World) :
    Calls Try.prog 13 #[.agg (rowL g r d t pa m pc).toArray] w fun e w' => e = .returned (.bool (wRow g r d t m)) ∧ Below w.heap.size w w' :=
  within_gen (rowL g r d t pa m pc) rfl _ _ _ w (permitted_L g r d t pa m pc) (glate_L g r d t pa m pc) (rlate_L g r d t pa m pc)
end Go.Proofs.Qxb6630841a
