import Derived.Test.Qxb6630808aFmtW9
namespace Go.Proofs.Qxb6630808aFmt
open Go.RowKit Go.Extern.Stop Go.Stop Go.Extern

theorem row4 {w : World} {b t : Nat} {a0 a1 a2 a3 : Value} (h : w.heap[b]? = some (.cells #[a0, a1, a2, a3] t (0, 0))) :
    w.cell? ⟨b, 0, none⟩ = some a0 ∧ w.cell? ⟨b, 1, none⟩ = some a1 ∧ w.cell? ⟨b, 2, none⟩ = some a2 ∧ w.cell? ⟨b, 3, none⟩ = some a3 ∧ (∀ k, w.frozen? ⟨b, k, none⟩ = false) := by
  refine ⟨?_, ?_, ?_, ?_, fun k => frozen_row h k⟩ <;> rw [cell_row h] <;> rfl

set_option maxHeartbeats 1000000 in
set_option maxRecDepth 100000 in
theorem remove_miss (F : Interp) (cb sb cap : Nat) (ver : Int) (L : List Src) (D nm : ByteArray) (w : World) (hF : F.answers w.tape) (hS : St w cb sb cap ver L D) (hmiss : ∀ x ∈ L, isN nm x = false) :
    Calls Tryf.prog 8 #[.pointer (some ⟨cb, 0, none⟩), .string nm] w fun e w' => ∃ a : Addr, e = .returned (.tuple #[.agg #[.string ⟨#[]⟩, .string ⟨#[]⟩, .string ⟨#[]⟩, .string ⟨#[]⟩], .iface 54 (.pointer (some a))]) ∧ Below w.heap.size w w' := by
  have hb0 : Below w.heap.size w (w.alloc (.cells #[.string ⟨#[]⟩, .string ⟨#[]⟩, .string ⟨#[]⟩, .string ⟨#[]⟩] 30)) := (Below.refl _ _).alloc (Nat.le_refl _) _
  have hidx := index_miss F cb sb cap ver L D nm (w.alloc (.cells #[.string ⟨#[]⟩, .string ⟨#[]⟩, .string ⟨#[]⟩, .string ⟨#[]⟩] 30)) hF (hS.below hb0) hmiss
  clear hS hmiss hF
  go_enter Tryf.func8, Tryf.ntmps8
  go_wp2_with (go_at_call 12; refine hidx.mono ?_; rintro e w1 ⟨a, rfl, hb1⟩; obtain ⟨c0, c1, c2, c3, cf⟩ := row4 ((hb1.block w.heap.size (by simp)).trans (heap_alloc_new w _)))
  refine bodyPost_ret (v := .tuple #[.agg #[.string ⟨#[]⟩, .string ⟨#[]⟩, .string ⟨#[]⟩, .string ⟨#[]⟩], .iface 54 (.pointer (some a))]) (by simp [results, Tryf.results8, go_sem, c0, c1, c2, c3]) rfl ⟨a, rfl, ?_⟩
  have hbw : Below w.heap.size w w1 := hb0.trans (hb1.mono (by simp))
  exact (((hbw.setCell (p := ⟨w.heap.size, 0, none⟩) (Nat.le_refl _) _).setCell (p := ⟨w.heap.size, 1, none⟩) (Nat.le_refl _) _).setCell (p := ⟨w.heap.size, 2, none⟩) (Nat.le_refl _) _).setCell (p := ⟨w.heap.size, 3, none⟩) (Nat.le_refl _) _

theorem row3 {w : World} {b t : Nat} {a0 a1 a2 : Value} (h : w.heap[b]? = some (.cells #[a0, a1, a2] t (0, 0))) :
    w.cell? ⟨b, 0, none⟩ = some a0 ∧ w.cell? ⟨b, 1, none⟩ = some a1 ∧ w.cell? ⟨b, 2, none⟩ = some a2 ∧ (∀ k, w.frozen? ⟨b, k, none⟩ = false) := by
  refine ⟨?_, ?_, ?_, fun k => frozen_row h k⟩ <;> rw [cell_row h] <;> rfl

/-- What is known behind slices.Delete: the configuration's block, the result's block b0, the removed source's block b1, the row. -/
structure Mid (w w3 : World) (cb sb cap b0 b1 : Nat) (ver : Int) (sv : Value) (D y0 y1 y2 y3 : ByteArray) (z0 z1 z2 z3 : Value) (L : List Src) : Prop where
  conf : w3.heap[cb]? = some (.cells #[.int .i64 ver, sv, .string D] 38 (0, 0))
  res : w3.heap[b0]? = some (.cells #[z0, z1, z2, z3] 30 (0, 0))
  rem : w3.heap[b1]? = some (.cells #[.string y0, .string y1, .string y2, .string y3] 30 (0, 0))
  row : RowL w3 30 sb cap L
  turned : Turned w w3 cb sb

theorem mid_of {w w1 w3 : World} {cb sb cap : Nat} {ver : Int} {sv : Value} {D y0 y1 y2 y3 : ByteArray} {L L' : List Src} (hne : sb ≠ cb) (hcb : cb < w.heap.size) (hsb : sb < w.heap.size) (hsz : w.heap.size < w1.heap.size)
    (HR : Hid (RowL w1 30 sb cap L ∧ w1.heap[cb]? = some (.cells #[.int .i64 ver, sv, .string D] 38 (0, 0)) ∧ w1.heap[w.heap.size]? = some (.cells #[.string ⟨#[]⟩, .string ⟨#[]⟩, .string ⟨#[]⟩, .string ⟨#[]⟩] 30 (0, 0)) ∧ Turned w w1 cb sb))
    (hrow : Hid (RowL w3 30 sb cap L')) (hg : Hid ((w1.alloc (.cells #[.string y0, .string y1, .string y2, .string y3] 30)).grownBy w3 (some sb))) :
    Mid w w3 cb sb cap w.heap.size w1.heap.size ver sv D y0 y1 y2 y3 (.string ⟨#[]⟩) (.string ⟨#[]⟩) (.string ⟨#[]⟩) (.string ⟨#[]⟩) L' := by
  obtain ⟨h1, h2, h3, h4⟩ := HR.out
  have hg' := hg.out
  have old : ∀ k, k < w1.heap.size → k ≠ sb → w3.heap[k]? = w1.heap[k]? := fun k hk hn => by
    rw [hg'.block k (by simp; omega) (fun e => hn (by cases e; rfl))]
    exact Below.heap_alloc w1 _ k hk
  refine ⟨(old cb (by omega) hne.symm).trans h2, (old w.heap.size (by omega) (by omega)).trans h3, ?_, hrow.out, ?_⟩
  · rw [hg'.block w1.heap.size (by simp) (fun e => by cases e; omega)]
    exact heap_alloc_new w1 _
  · refine ⟨hg'.os.trans h4.os, hg'.tape.trans h4.tape, hg'.output.trans h4.output, by have := hg'.size; simp at this; omega, fun k hk n1 n2 => ?_⟩
    rw [old k (by omega) n2]
    exact h4.block k hk n1 n2

theorem Mid.size {w w3 : World} {cb sb cap b0 b1 : Nat} {ver : Int} {sv : Value} {D y0 y1 y2 y3 : ByteArray} {z0 z1 z2 z3 : Value} {L : List Src} (h : Mid w w3 cb sb cap b0 b1 ver sv D y0 y1 y2 y3 z0 z1 z2 z3 L) :
    cb < w3.heap.size ∧ b0 < w3.heap.size ∧ b1 < w3.heap.size := ⟨(Array.getElem?_eq_some_iff.1 h.conf).1, (Array.getElem?_eq_some_iff.1 h.res).1, (Array.getElem?_eq_some_iff.1 h.rem).1⟩

theorem Mid.setSv {w w3 : World} {cb sb cap b0 b1 : Nat} {ver : Int} {sv : Value} {D y0 y1 y2 y3 : ByteArray} {z0 z1 z2 z3 : Value} {L : List Src} (h : Mid w w3 cb sb cap b0 b1 ver sv D y0 y1 y2 y3 z0 z1 z2 z3 L) (n0 : b0 ≠ cb) (n1 : b1 ≠ cb) (ns : sb ≠ cb) (sv' : Value) :
    Mid w (w3.setCell ⟨cb, 1, none⟩ sv') cb sb cap b0 b1 ver sv' D y0 y1 y2 y3 z0 z1 z2 z3 L :=
  ⟨heap_setCell_same w3 cb 1 _ 38 _ h.conf, (heap_setCell_other w3 ⟨cb, 1, none⟩ b0 _ n0).trans h.res, (heap_setCell_other w3 ⟨cb, 1, none⟩ b1 _ n1).trans h.rem, h.row.of_block (heap_setCell_other w3 ⟨cb, 1, none⟩ sb _ ns), h.turned.trans (Turned.of_set w3 cb sb 1 _)⟩

theorem Mid.setD {w w3 : World} {cb sb cap b0 b1 : Nat} {ver : Int} {sv : Value} {D y0 y1 y2 y3 : ByteArray} {z0 z1 z2 z3 : Value} {L : List Src} (h : Mid w w3 cb sb cap b0 b1 ver sv D y0 y1 y2 y3 z0 z1 z2 z3 L) (n0 : b0 ≠ cb) (n1 : b1 ≠ cb) (ns : sb ≠ cb) (D' : ByteArray) :
    Mid w (w3.setCell ⟨cb, 2, none⟩ (.string D')) cb sb cap b0 b1 ver sv D' y0 y1 y2 y3 z0 z1 z2 z3 L :=
  ⟨heap_setCell_same w3 cb 2 _ 38 _ h.conf, (heap_setCell_other w3 ⟨cb, 2, none⟩ b0 _ n0).trans h.res, (heap_setCell_other w3 ⟨cb, 2, none⟩ b1 _ n1).trans h.rem, h.row.of_block (heap_setCell_other w3 ⟨cb, 2, none⟩ sb _ ns), h.turned.trans (Turned.of_set w3 cb sb 2 _)⟩

theorem turned_set_new {w w3 : World} {cb sb b0 i : Nat} {v : Value} (h : Turned w w3 cb sb) (hb : w.heap.size ≤ b0) : Turned w (w3.setCell ⟨b0, i, none⟩ v) cb sb :=
  ⟨h.os, h.tape, h.output, by have := h.size; simpa using this, fun k hk n1 n2 => (heap_setCell_other w3 ⟨b0, i, none⟩ k v (by show k ≠ b0; omega)).trans (h.block k hk n1 n2)⟩

theorem Mid.fin {w w3 : World} {cb sb cap b0 b1 : Nat} {ver : Int} {sv : Value} {D y0 y1 y2 y3 : ByteArray} {z0 z1 z2 z3 : Value} {L : List Src} (h : Mid w w3 cb sb cap b0 b1 ver sv D y0 y1 y2 y3 z0 z1 z2 z3 L) (n0 : cb ≠ b0) (ns : sb ≠ b0) (hb : w.heap.size ≤ b0) (u0 u1 u2 u3 : Value) :
    ((((w3.setCell ⟨b0, 0, none⟩ u0).setCell ⟨b0, 1, none⟩ u1).setCell ⟨b0, 2, none⟩ u2).setCell ⟨b0, 3, none⟩ u3).heap[cb]? = some (.cells #[.int .i64 ver, sv, .string D] 38 (0, 0)) ∧
    RowL ((((w3.setCell ⟨b0, 0, none⟩ u0).setCell ⟨b0, 1, none⟩ u1).setCell ⟨b0, 2, none⟩ u2).setCell ⟨b0, 3, none⟩ u3) 30 sb cap L ∧
    Turned w ((((w3.setCell ⟨b0, 0, none⟩ u0).setCell ⟨b0, 1, none⟩ u1).setCell ⟨b0, 2, none⟩ u2).setCell ⟨b0, 3, none⟩ u3) cb sb := by
  have e : ∀ k, k ≠ b0 → ((((w3.setCell ⟨b0, 0, none⟩ u0).setCell ⟨b0, 1, none⟩ u1).setCell ⟨b0, 2, none⟩ u2).setCell ⟨b0, 3, none⟩ u3).heap[k]? = w3.heap[k]? := fun k hk => by
    rw [heap_setCell_other _ ⟨b0, 3, none⟩ k _ hk, heap_setCell_other _ ⟨b0, 2, none⟩ k _ hk, heap_setCell_other _ ⟨b0, 1, none⟩ k _ hk, heap_setCell_other _ ⟨b0, 0, none⟩ k _ hk]
  exact ⟨(e cb n0).trans h.conf, h.row.of_block (e sb ns), turned_set_new (turned_set_new (turned_set_new (turned_set_new h.turned hb) hb) hb) hb⟩

/-- The default behind a removal. -/
def firstN : List Src → ByteArray
  | [] => ⟨#[]⟩
  | x :: _ => x.1
def nextD (D nm : ByteArray) (L' : List Src) : ByteArray := if (D.toList == nm.toList) = true then firstN L' else D

set_option maxHeartbeats 1000000 in
set_option maxRecDepth 100000 in
theorem remove_row (cb sb cap i n : Nat) (ver : Int) (L : List Src) (D nm : ByteArray) (y0 y1 y2 y3 : ByteArray) (w : World) 
    (hc : w.heap[cb]? = some (.cells #[.int .i64 ver, .slice (some ⟨sb, 0, none⟩) n cap, .string D] 38 (0, 0))) (hne : sb ≠ cb) (hr : RowL w 30 sb cap L) (hcap : cap ≤ 4096) (HN : Hid (n = L.length))
    (hi : L[i]? = some (y0, y1, y2, y3)) (hy : isN nm (y0, y1, y2, y3) = true) (hmiss : ∀ j x, j < i → L[j]? = some x → isN nm x = false) :
    Calls Tryf.prog 8 #[.pointer (some ⟨cb, 0, none⟩), .string nm] w fun e w' => e = .returned (.tuple #[.agg #[.string y0, .string y1, .string y2, .string y3], .nilIface]) ∧ 
      w'.heap[cb]? = some (.cells #[.int .i64 ver, .slice (some ⟨sb, 0, none⟩) (n - 1) cap, .string (nextD D nm (L.eraseIdx i))] 38 (0, 0)) ∧ RowL w' 30 sb cap (L.eraseIdx i) ∧ Turned w w' cb sb := by
  have hb0 : Below w.heap.size w (w.alloc (.cells #[.string ⟨#[]⟩, .string ⟨#[]⟩, .string ⟨#[]⟩, .string ⟨#[]⟩] 30)) := (Below.refl _ _).alloc (Nat.le_refl _) _
  have hcb : cb < w.heap.size := (Array.getElem?_eq_some_iff.1 hc).1
  have hsb := hr.lt
  have hin : i < n := by rw [HN.out]; exact (List.getElem?_eq_some_iff.1 hi).1
  have hnc : n ≤ cap := by rw [HN.out]; exact hr.le
  have hidx := index_hit cb sb cap n i L nm (y0, y1, y2, y3) (w.alloc (.cells #[.string ⟨#[]⟩, .string ⟨#[]⟩, .string ⟨#[]⟩, .string ⟨#[]⟩] 30)) (hr.of_block (hb0.block sb hsb)) HN (by omega) (by simp; omega)
    ((row3 ((hb0.block cb hcb).trans hc)).2.1) hi hy hmiss
  have hdel : ∀ W : World, Hid (RowL W 30 sb cap L) → Calls Tryf.prog 13 #[.slice (some ⟨sb, 0, none⟩) n cap, .int .i64 i, .int .i64 (i + 1)] W fun e w' => e = .returned (.slice (some ⟨sb, 0, none⟩) (n - 1) cap) ∧ Hid (RowL w' 30 sb cap (L.eraseIdx i)) ∧ Hid (W.grownBy w' (some sb)) := by
    intro W hW
    have h := del_any sb cap i L W hW.out hcap (by have := HN.out; omega)
    rw [← HN.out] at h
    exact h
  have hcy : ∀ W : World, Below (w.alloc (.cells #[.string ⟨#[]⟩, .string ⟨#[]⟩, .string ⟨#[]⟩, .string ⟨#[]⟩] 30)).heap.size (w.alloc (.cells #[.string ⟨#[]⟩, .string ⟨#[]⟩, .string ⟨#[]⟩, .string ⟨#[]⟩] 30)) W →
      (W.cell? ⟨sb, i * 4, none⟩ = some (.string y0) ∧ W.cell? ⟨sb, i * 4 + 1, none⟩ = some (.string y1) ∧ W.cell? ⟨sb, i * 4 + 2, none⟩ = some (.string y2) ∧ W.cell? ⟨sb, i * 4 + 3, none⟩ = some (.string y3)) ∧
      (W.cell? ⟨cb, 0, none⟩ = some (.int .i64 ver) ∧ W.cell? ⟨cb, 1, none⟩ = some (.slice (some ⟨sb, 0, none⟩) n cap) ∧ W.cell? ⟨cb, 2, none⟩ = some (.string D) ∧ (∀ k, W.frozen? ⟨cb, k, none⟩ = false)) ∧ w.heap.size < W.heap.size ∧ cb < W.heap.size ∧ Hid (RowL W 30 sb cap L ∧ W.heap[cb]? = some (.cells #[.int .i64 ver, .slice (some ⟨sb, 0, none⟩) n cap, .string D] 38 (0, 0)) ∧ W.heap[w.heap.size]? = some (.cells #[.string ⟨#[]⟩, .string ⟨#[]⟩, .string ⟨#[]⟩, .string ⟨#[]⟩] 30 (0, 0)) ∧ Turned w W cb sb) := by
    intro W hW
    have hW0 : Below w.heap.size w W := hb0.trans (hW.mono (by simp))
    have hrW := hr.of_block (hW0.block sb hsb)
    have := hrW.cells i _ hi
    simp only [Nat.zero_add] at this
    exact ⟨this, row3 ((hW0.block cb hcb).trans hc), by have := hW.size; simp at this; omega, by have := hW.size; simp at this; omega, hrW, (hW0.block cb hcb).trans hc, (hW.block w.heap.size (by simp)).trans (heap_alloc_new w _), Turned.of_below hW0 cb sb⟩
  have hi1 : (0 : Int) ≤ (i : Int) := by omega
  have hi2 : (i : Int) < (n : Int) := by omega
  clear hi hy hmiss hr hc hb0
  go_enter Tryf.func8, Tryf.ntmps8
  go_wp2_with (first | (go_at_call 12; refine hidx.mono ?_; rintro e w1 ⟨rfl, hb1⟩; obtain ⟨⟨c0, c1, c2, c3⟩, ⟨d0, d1, d2, d3⟩, hsz, hcb1, HR⟩ := hcy w1 hb1; clear hb1 hidx) | fail)
  refine (hdel _ (by exact (HR.out.1.of_block (Below.heap_alloc w1 _ sb (by omega))))).mono ?_
  rintro e w3 ⟨rfl, HRow, HG⟩
  have M := mid_of hne hcb hsb hsz HR HRow HG
  have MH : Hid _ := M
  obtain ⟨g0, g1, g2⟩ := M.size
  obtain ⟨e0, e1, e2, e3⟩ := row3 M.conf
  obtain ⟨q0, q1, q2, q3, q4⟩ := row4 M.res
  obtain ⟨r0, r1, r2, r3, r4⟩ := row4 M.rem
  have k1 : cb ≠ w.heap.size := by omega
  have k2 : cb ≠ w1.heap.size := by omega
  have k3 : w.heap.size ≠ w1.heap.size := by omega
  have k4 : w.heap.size ≠ cb := by omega
  have k5 : w1.heap.size ≠ cb := by omega
  have k6 : w1.heap.size ≠ w.heap.size := by omega
  clear HR HRow HG M c0 c1 c2 c3 d0 d1 d2 d3 hdel hcy
  cases hD : (D.toList == nm.toList) with
  | false =>
    go_wp2
    refine bodyPost_ret (v := .tuple #[.agg #[.string y0, .string y1, .string y2, .string y3], .nilIface]) (by simp [results, Tryf.results8, go_sem, *]) rfl ⟨rfl, ?_⟩
    rw [show nextD D nm (L.eraseIdx i) = D by simp [nextD, hD]]
    exact (MH.out.setSv k4 k5 hne _).fin k1 (by omega) (Nat.le_refl _) _ _ _ _
  | true =>
    by_cases hn1 : n - 1 = 0
    · have hE : Hid (nextD D nm (L.eraseIdx i) = ⟨#[]⟩) := by
        have hl : (L.eraseIdx i).length = 0 := by rw [List.length_eraseIdx]; have := HN.out; split <;> omega
        show nextD D nm (L.eraseIdx i) = _
        rw [List.length_eq_zero_iff.1 hl]; simp [nextD, hD, firstN]
      have hn2 : n = 1 := by omega
      subst hn2
      go_wp2
      refine bodyPost_ret (v := .tuple #[.agg #[.string y0, .string y1, .string y2, .string y3], .nilIface]) (by simp [results, Tryf.results8, go_sem, *]) rfl ⟨rfl, ?_⟩
      rw [hE.out]
      exact ((MH.out.setSv k4 k5 hne _).setD k4 k5 hne _).fin k1 (by omega) (Nat.le_refl _) _ _ _ _
    · obtain ⟨x0, hx0⟩ : ∃ x0, (L.eraseIdx i)[0]? = some x0 := ⟨_, List.getElem?_eq_getElem (by rw [List.length_eraseIdx]; have := HN.out; split <;> omega)⟩
      have hE : Hid (nextD D nm (L.eraseIdx i) = x0.1) := by
        show nextD D nm (L.eraseIdx i) = _
        cases hL : L.eraseIdx i with
        | nil => rw [hL] at hx0; cases hx0
        | cons a r => rw [hL] at hx0; cases hx0; simp [nextD, hD, firstN]
      have hx1 := (MH.out.row.cells 0 x0 hx0).1
      simp only [Nat.zero_mul, Nat.add_zero] at hx1
      obtain ⟨f0, f1, f2, f3⟩ := x0
      have hn3 : (0 : Int) < ((n - 1 : Nat) : Int) := by omega
      have k7 : sb ≠ w.heap.size := by omega
      clear hx0
      go_wp2
      refine bodyPost_ret (v := .tuple #[.agg #[.string y0, .string y1, .string y2, .string y3], .nilIface]) (by simp [results, Tryf.results8, go_sem, *]) rfl ⟨rfl, ?_⟩
      rw [hE.out]
      exact (((MH.out.setSv k4 k5 hne _).setD k4 k5 hne _).setD k4 k5 hne _).fin k1 (by omega) (Nat.le_refl _) _ _ _ _

theorem remove_hit (cb sb cap i : Nat) (ver : Int) (L : List Src) (D nm : ByteArray) (y : Src) (w : World) (hS : St w cb sb cap ver L D)
    (hi : L[i]? = some y) (hy : isN nm y = true) (hmiss : ∀ j x, j < i → L[j]? = some x → isN nm x = false) :
    Calls Tryf.prog 8 #[.pointer (some ⟨cb, 0, none⟩), .string nm] w fun e w' => e = .returned (.tuple #[.agg #[.string y.1, .string y.2.1, .string y.2.2.1, .string y.2.2.2], .nilIface]) ∧
      St w' cb sb cap ver (L.eraseIdx i) (nextD D nm (L.eraseIdx i)) ∧ Turned w w' cb sb := by
  obtain ⟨sv, h1, h2, h3, h4⟩ := hS
  rcases h4 with ⟨_, rfl, _⟩ | ⟨rfl, h5, h6⟩
  · cases hi
  · refine (remove_row cb sb cap i L.length ver L D nm y.1 y.2.1 y.2.2.1 y.2.2.2 w h1 h5 h6 h3 rfl hi hy hmiss).mono ?_
    rintro e w' ⟨rfl, h7, h8, h9⟩
    have hl : L.length - 1 = (L.eraseIdx i).length := by rw [List.length_eraseIdx, if_pos (List.getElem?_eq_some_iff.1 hi).1]
    refine ⟨rfl, ⟨_, h7, Nat.le_trans (nameSum_eraseIdx L i) h2, h3, .inr ⟨by rw [hl], h5, h8⟩⟩, h9⟩
end Go.Proofs.Qxb6630808aFmt
