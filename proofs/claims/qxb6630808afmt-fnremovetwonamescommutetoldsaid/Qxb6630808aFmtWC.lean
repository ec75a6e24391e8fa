import Derived.Test.Qxb6630808aFmtWB
import Derived.ArgAppend
namespace Go.Proofs.Qxb6630808aFmt
open Go.RowKit Go.Extern.Stop Go.Stop Go.Extern

theorem Tryf.info26 : (Tryf.prog.info? 26).map (fun i => (i.zero, i.size, i.bytes)) = some (some (.agg #[.string ⟨#[]⟩, .string ⟨#[]⟩, .string ⟨#[]⟩, .string ⟨#[]⟩]), 4, 64) := by kernel_rfl

theorem make26 (n : Nat) (hn : n ≤ 4096) : ∃ MC : Array Value, MC.size = n * 4 ∧ ∀ w : World, (Instr.makeSlice 22 (.int .i64 0) (.int .i64 (n : Int))).run Tryf.prog w = .ok (.slice (some ⟨w.heap.size, 0, none⟩) 0 n) (w.alloc (.cells MC 26)) := by
  obtain ⟨i0, hinf, hz0, hz1, hz2⟩ := info_parts Tryf.info26
  refine ⟨madeCells (Value.agg #[.string ⟨#[]⟩, .string ⟨#[]⟩, .string ⟨#[]⟩, .string ⟨#[]⟩]).cells (n * 4), by rw [size_madeCells], fun w => ?_⟩
  have := run_make (P := Tryf.prog) w 22 26 i0 _ Tryf.underlying22 hinf hz0 .i64 .i64 0 (n : Int) (by omega) (by omega) (by rw [hz2]; omega) (by omega)
  rw [hz1] at this
  exact this

theorem RowL.snoc {w : World} {ty nb n : Nat} {M : List Src} {x : Src} (h : RowL w ty nb n M) (hl : M.length < n) : RowL (w.setCells nb (M.length * 4) (encS x)) ty nb n (M ++ [x]) := by
  obtain ⟨cur, h1, h2, h3, h4⟩ := h
  refine ⟨_, heap_setCells_same nb ty _ _ _ _ h1, by rw [size_putAll, h2], by simp; omega, fun j y hj q v hv => ?_⟩
  have hq : q < 4 := by have := (List.getElem?_eq_some_iff.1 hv).1; simpa [encS] using this
  have hjl : j < (M ++ [x]).length := (List.getElem?_eq_some_iff.1 hj).1
  by_cases e : j < M.length
  · rw [List.getElem?_append_left e] at hj
    rw [putAll_out _ _ _ _ (by omega)]
    exact h4 j y hj q v hv
  · have e' : j = M.length := by simp at hjl; omega
    subst e'
    rw [List.getElem?_append_right (Nat.le_refl _)] at hj
    simp at hj
    subst hj
    rw [putAll_in _ _ _ _ (by omega) (by simp [encS]; omega) (by simp [encS]; omega)]
    rw [show M.length * 4 + q - M.length * 4 = q by omega]; exact hv

theorem app1 (wr : World) (nb n p : Nat) (M : List Src) (s0 s1 s2 s3 : ByteArray) (h : RowL wr 26 nb n M) (hp : p = M.length) (hl : p < n) :
    ∃ W2 : World, (∀ ty, (Builtin.append_ #[22, 22] ty #[.slice (some ⟨nb, 0, none⟩) p n, .slice (some ⟨wr.heap.size, 0, none⟩) 1 1]).run Tryf.prog (wr.alloc (.cells #[.string s0, .string s1, .string s2, .string s3] 26)) = .ok (.slice (some ⟨nb, 0, none⟩) (p + 1) n) W2) ∧
      RowL W2 26 nb n (M ++ [(s0, s1, s2, s3)]) ∧ wr.grownBy W2 (some nb) := by
  obtain ⟨i0, hinf, hz0, hz1, hz2⟩ := info_parts Tryf.info26
  have hA : RowL (wr.alloc (.cells #[.string s0, .string s1, .string s2, .string s3] 26)) 26 nb n M := h.of_block (Below.heap_alloc wr _ nb h.lt)
  refine ⟨(wr.alloc (.cells #[.string s0, .string s1, .string s2, .string s3] 26)).setCells nb (p * 4) (encS (s0, s1, s2, s3)), fun ty => ?_, by rw [hp]; exact hA.snoc (by omega), grownBy_trans (World.grownBy_alloc wr _ _) (grownBy_setCells nb _ _ _)⟩
  have hr := run_append_room_cells (P := Tryf.prog) (wr.alloc (.cells #[.string s0, .string s1, .string s2, .string s3] 26)) 22 ty 26 i0 Tryf.underlying22 hinf nb 0 p n ⟨wr.heap.size, 0, none⟩ 1 1 (encS (s0, s1, s2, s3)) (by rw [hz1]; rfl)
    (fun j u hu => by
      rw [Addr.add_lit, cell_row (heap_alloc_new wr _)]
      simpa [encS] using hu) (fun u hu => flat_mem (L := [(s0, s1, s2, s3)]) (by simpa [flat] using hu)) (by omega)
    (fun j hj => by
      obtain ⟨cur, h1, h2, h3, h4⟩ := hA
      rw [hz1, cell_row h1, Array.getElem?_eq_getElem (by simp [encS] at hj; omega)]; rfl)
    (fun j hj => hA.frozen _)
  rw [hz1, Nat.zero_add] at hr
  exact hr

/-- An append whose run is known. -/
theorem wpList_append_run {P : Program} (w : World) {ops : Array Oper} {rest : List Oper} {o : Oper} {a : Act} {Q : Exit → Act → World → Prop}
    (hg : o.guard = none) (s x : Operand) (t : TypeId) (hop : o.op = Op.call { callee := Callee.builtin Builtin.append, args := #[s, x], argTypes := #[t, t] })
    (vs vx v' : Value) (W2 : World) (hs : a.eval s = vs) (hx : a.eval x = vx) (hrun : ∀ ty, (Builtin.append_ #[t, t] ty #[vs, vx]).run P w = .ok v' W2)
    (hK : wpList P ops Q rest (a.put o.dst v') W2) : wpList P ops Q (o :: rest) a w := by
  refine wpList_plain hg fun K hK' => ?_
  unfold Oper.wp
  simp [execOp, hop, resolve, invoke, builtin, hs, hx, hrun, Result.andThen]
  exact hK' _ _ hK
end Go.Proofs.Qxb6630808aFmt
