import Derived.Test.Qxb6630841aW4
namespace Go.Proofs.Qxb6630841a
open Go.RowKit

/-- The row that is being filled: the block just made. -/
structure Sx (wr W : World) (cur : Array Value) : Prop where
  below : Below wr.heap.size wr W
  row : W.heap[wr.heap.size]? = some (.cells cur 44 (0, 0))

theorem Sx.start (wr : World) : Sx wr (wr.alloc (.cells zRow 44)) zRow := ⟨(Below.refl _ _).alloc (Nat.le_refl _) _, heap_alloc_new wr _⟩
theorem Sx.lt {wr W : World} {cur : Array Value} (h : Sx wr W cur) : wr.heap.size < W.heap.size := (Array.getElem?_eq_some_iff.1 h.row).1
theorem Sx.later {wr W W' : World} {cur : Array Value} (h : Sx wr W cur) (hb : Below W.heap.size W W') : Sx wr W' cur := ⟨h.below.trans (hb.mono h.below.size), (hb.block _ h.lt).trans h.row⟩
theorem Sx.store {wr W : World} {cur : Array Value} (h : Sx wr W cur) (o : Nat) (vs : List Value) : Sx wr (W.setCells wr.heap.size o vs) (putAll cur o vs) :=
  ⟨below_setCells (Nat.le_refl _) _ _ h.below, heap_setCells_same _ 44 _ _ _ _ h.row⟩
theorem Sx.there {wr W : World} {cur : Array Value} (h : Sx wr W cur) (o n : Nat) (hn : o + n ≤ cur.size) : W.there wr.heap.size o n := there_row h.row o n hn

theorem Try.size40 : (Try.prog.info? 40).map (·.size) = some 3 := by kernel_rfl
theorem Try.info44 : (Try.prog.info? 44).map (fun i => (i.zero, i.size, i.bytes)) = some (some (.agg zRow), 18, 184) := by kernel_rfl

def tm (ns : Int) : List Value := [.int .u64 (tw ns), .int .i64 (te ns), .pointer none]

theorem make44 (n : Nat) (hn : n ≤ 16384) : ∃ MC : Array Value, MC.size = n * 18 ∧ ∀ w : World, (Instr.makeSlice 24 (.int .i64 (n : Int)) (.int .i64 (n : Int))).run Try.prog w = .ok (.slice (some ⟨w.heap.size, 0, none⟩) n n) (w.alloc (.cells MC 44)) := by
  obtain ⟨i0, hinf, hz0, hz1, hz2⟩ := info_parts Try.info44
  refine ⟨madeCells (Value.agg zRow).cells (n * 18), by rw [size_madeCells], fun w => ?_⟩
  have := run_make (P := Try.prog) w 24 44 i0 _ Try.underlying24 hinf hz0 .i64 .i64 (n : Int) (n : Int) (by omega) (Int.le_refl _) (by rw [hz2]; omega) (by omega)
  rw [hz1] at this
  exact this

theorem Try.zero74 : (Try.prog.info? 74).map (fun i => (i.zero, i.size, i.bytes)) = some (some (.agg #[.int .i64 0, .string ⟨#[]⟩, .int .u64 0, .int .i64 0, .pointer none, .int .u64 0, .int .i64 0, .pointer none, .int .u64 0, .int .i64 0, .pointer none, .int .u64 0, .int .i64 0, .pointer none]), 14, 120) := by kernel_rfl

theorem make74 : ∃ MC : Array Value, ∀ w : World, (Instr.makeSlice 32 (.int .i64 256) (.int .i64 256)).run Try.prog w = .ok (.slice (some ⟨w.heap.size, 0, none⟩) 256 256) (w.alloc (.cells MC 74)) := by
  obtain ⟨i0, hinf, hz0, hz1, hz2⟩ := info_parts Try.zero74
  refine ⟨madeCells (Value.agg #[.int .i64 0, .string ⟨#[]⟩, .int .u64 0, .int .i64 0, .pointer none, .int .u64 0, .int .i64 0, .pointer none, .int .u64 0, .int .i64 0, .pointer none, .int .u64 0, .int .i64 0, .pointer none]).cells (256 * 14), fun w => ?_⟩
  have := run_make (P := Try.prog) w 32 74 i0 _ Try.underlying32 hinf hz0 .i64 .i64 256 256 (by omega) (Int.le_refl _) (by rw [hz2]; omega) (by omega)
  rw [hz1] at this
  exact this

set_option maxRecDepth 100000 in
set_option maxHeartbeats 2000000 in
theorem build_nil (w : World) : Calls Try.prog 6 #[.slice none 0 0] w fun e w' => e = .returned (.slice none 0 0) ∧ w' = w := by
  have hnil := fun (W : World) (x : Option Addr) (p q : Nat) => Lib.run_eql_slice_nil (P := Try.prog) W 22 31 x p q 0 0 Try.underlying22
  go_enter Try.func6, Try.ntmps6
  go_wp2
  go_ret
  exact ⟨rfl, rfl⟩

theorem thereT {wr W : World} {cur : Array Value} (S : Hid (Sx wr W cur)) (o : Nat) (n : Int) (hc : cur.size = 18) (ho : o + 3 ≤ 18) : W.there wr.heap.size o (tm n).toArray.size :=
  S.out.there o 3 (by omega)
theorem tm_one (n : Int) : (tm n).toArray.all (·.oneCell') = true := all_oneCell_toArray (by intro v hv; simp [tm] at hv; rcases hv with rfl | rfl | rfl <;> rfl)

def cur1 (g : Int) : Array Value := putAll zRow 7 (tm g)
def cur2 (g r : Int) : Array Value := putAll (cur1 g) 10 (tm r)
def cur3 (g r d : Int) : Array Value := putAll (cur2 g r) 13 (tm d)
theorem cur1_size (g : Int) : (cur1 g).size = 18 := by unfold cur1; rw [size_putAll]; rfl
theorem cur2_size (g r : Int) : (cur2 g r).size = 18 := by unfold cur2; rw [size_putAll]; exact cur1_size g
theorem pk1 {wr W : World} {g : Int} (S : Hid (Sx wr W zRow)) : ∃ W', W.setCells wr.heap.size 7 (tm g).toArray.toList = W' ∧ Hid (Sx wr W' (cur1 g)) := ⟨_, rfl, S.out.store 7 (tm g)⟩
theorem pk2 {wr W : World} {g r : Int} (S : Hid (Sx wr W (cur1 g))) : ∃ W', W.setCells wr.heap.size 10 (tm r).toArray.toList = W' ∧ Hid (Sx wr W' (cur2 g r)) := ⟨_, rfl, S.out.store 10 (tm r)⟩
theorem pk3 {wr W : World} {g r d : Int} (S : Hid (Sx wr W (cur2 g r))) : ∃ W', W.setCells wr.heap.size 13 (tm d).toArray.toList = W' ∧ Hid (Sx wr W' (cur3 g r d)) := ⟨_, rfl, S.out.store 13 (tm d)⟩

theorem cur3_at (g r d : Int) : (cur3 g r d)[16]? = some (.bool false) ∧ (cur3 g r d)[17]? = some (.slice none 0 0) := by simp [cur3, cur2, cur1, putAll, tm]
theorem cur3_fin (g r d : Int) (t : Bool) (pa : Option Addr) (m : Nat) : putAll (cur3 g r d) 16 [.bool t, .slice pa m 256] = (rL pa (g, r, d, t, m)).toArray := by simp [cur3, cur2, cur1, putAll, tm, rL, rowL]

/-- What is known when the three dates stand. -/
theorem fin3 {wr W : World} {g r d : Int} (S : Hid (Sx wr W (cur3 g r d))) (t : Bool) (pa : Option Addr) (m : Nat) :
    W.cell? ⟨wr.heap.size, 16, none⟩ = some (.bool false) ∧ W.cell? ⟨wr.heap.size, 17, none⟩ = some (.slice none 0 0) ∧ (∀ k, W.frozen? ⟨wr.heap.size, k, none⟩ = false) ∧ wr.heap.size < W.heap.size ∧
    Hid (((W.setCell ⟨wr.heap.size, 16, none⟩ (.bool t)).setCell ⟨wr.heap.size, 17, none⟩ (.slice pa m 256)).rangeAt wr.heap.size 0 (rL pa (g, r, d, t, m))) ∧
    Hid (Below wr.heap.size wr ((W.setCell ⟨wr.heap.size, 16, none⟩ (.bool t)).setCell ⟨wr.heap.size, 17, none⟩ (.slice pa m 256))) := by
  have h1 := cur3_at g r d
  refine ⟨by rw [cell_row S.out.row]; exact h1.1, by rw [cell_row S.out.row]; exact h1.2, fun k => frozen_row S.out.row k, S.out.lt, ?_, ?_⟩
  · have h2 := (S.out.store 16 [.bool t, .slice pa m 256]).row
    rw [cur3_fin] at h2
    exact range_row h2
  · exact (S.out.below.setCell (p := ⟨wr.heap.size, 16, none⟩) (Nat.le_refl _) _).setCell (p := ⟨wr.heap.size, 17, none⟩) (Nat.le_refl _) _

set_option maxRecDepth 100000 in
set_option maxHeartbeats 800000 in
theorem build_some (a : Addr) (n cap : Nat) (L : List Rw) (w : World) (hn : n ≤ 16384) (HN : Hid (n = L.length)) (HF : Hid (InFits L)) (ha : 0 < n → ∃ b off, a = ⟨b, off, none⟩ ∧ b < w.heap.size ∧ InCells w b off L) :
    Calls Try.prog 6 #[.slice (some a) n cap] w fun e w' => e = .returned (.slice (some ⟨w.heap.size + 1, 0, none⟩) n n) ∧ Below w.heap.size w w' ∧ PartT w' (w.heap.size + 1) n n (some ⟨w.heap.size, 0, none⟩) L := by
  have hnil := fun (W : World) (x : Option Addr) (p q : Nat) => Lib.run_eql_slice_nil (P := Try.prog) W 22 31 x p q 0 0 Try.underlying22
  obtain ⟨MP, hmp⟩ := make74
  obtain ⟨MC, hMC, hmk⟩ := make44 n hn
  have H0 : Hid (PartT ((w.alloc (.cells MP 74)).alloc (.cells MC 44)) (w.heap.size + 1) n 0 (some ⟨w.heap.size, 0, none⟩) L) := by
    have := heap_alloc_new (w.alloc (.cells MP 74)) (.cells MC 44)
    rw [show (w.alloc (.cells MP 74)).heap.size = w.heap.size + 1 by simp] at this
    exact ⟨MC, this, hMC, fun j x hj => absurd hj (Nat.not_lt_zero _)⟩
  clear hMC
  go_enter Try.func6, Try.ntmps6
  go_wp2
  go_loopw [5, 6] (fun i _ wr => ∃ k : Nat, k ≤ n ∧ i = .int .i64 k ∧ Hid (Below w.heap.size w wr) ∧ Hid (PartT wr (w.heap.size + 1) n k (some ⟨w.heap.size, 0, none⟩) L)) (fun i _ _ => n - (intOf i).toNat)
  case atStart => exact ⟨0, Nat.zero_le _, rfl, ((Below.refl _ _).alloc (Nat.le_refl _) _).alloc (by simp) _, H0⟩
  case round =>
    obtain ⟨k, hk, rfl, HB, HP⟩ := hrel
    by_cases hlt : k < n
    · have hltI : (k : Int) < (n : Int) := by omega
      obtain ⟨x, hx⟩ : ∃ x, L[k]? = some x := ⟨_, List.getElem?_eq_getElem (show k < L.length by have := HN.out; omega)⟩
      obtain ⟨b, off, rfl, hbw, hcl⟩ := ha (by omega)
      obtain ⟨⟨g0, g1⟩, ⟨r0, r1⟩, ⟨d0, d1⟩, m1⟩ := HF.out x (List.mem_of_getElem? hx)
      have hbr : b < wr.heap.size := Nat.lt_of_lt_of_le hbw HB.out.size
      have hin : ∀ W, Below wr.heap.size wr W → W.cell? ⟨b, off + k * 5, none⟩ = some (.int .i64 x.1) ∧ W.cell? ⟨b, off + k * 5 + 1, none⟩ = some (.int .i64 x.2.1) ∧ W.cell? ⟨b, off + k * 5 + 2, none⟩ = some (.int .i64 x.2.2.1) ∧ W.cell? ⟨b, off + k * 5 + 3, none⟩ = some (.bool x.2.2.2.1) ∧ W.cell? ⟨b, off + k * 5 + 4, none⟩ = some (.int .u8 (x.2.2.2.2 : Int)) := fun W hW => ((hcl.below hbw HB.out).below hbr hW) k x hx
      have HX : Hid (L[k]? = some x) := hx
      have hth : ∀ W, Below wr.heap.size wr W → Hid (W.there (w.heap.size + 1) (k * 18) 18) := fun W hW => (HP.out.of_block (hW.block _ HP.out.lt)).there hlt
      obtain ⟨g, r, d, t, m⟩ := x
      simp only at g0 g1 r0 r1 d0 d1 m1 hin
      have S0 : Hid (Sx wr (wr.alloc (.cells zRow 44)) zRow) := Sx.start wr
      obtain ⟨a0, a1, a2, a3, a4⟩ := hin _ (Below.refl _ _)
      have i44 : Hid ((Try.prog.info? 44).map (·.size) = some (rL (some ⟨w.heap.size, 0, none⟩) (g, r, d, t, m)).length) := Try.size44
      have i44a : Hid ((Try.prog.info? 44).map (·.size) = some (rL (some ⟨w.heap.size, 0, none⟩) (g, r, d, t, m)).toArray.size) := Try.size44
      have hone : Hid ((rL (some ⟨w.heap.size, 0, none⟩) (g, r, d, t, m)).toArray.all (·.oneCell') = true) := all_oneCell_toArray rowL_one
      have hth2 : ∀ W, Hid (Below wr.heap.size wr W) → Hid (W.there (w.heap.size + 1) (k * 18) (rL (some ⟨w.heap.size, 0, none⟩) (g, r, d, t, m)).toArray.size) := fun W hW => hth W hW.out
      have jg : Hid ((Try.prog.info? 40).map (·.size) = some (tm g).toArray.size) := Try.size40
      have jr : Hid ((Try.prog.info? 40).map (·.size) = some (tm r).toArray.size) := Try.size40
      have jd : Hid ((Try.prog.info? 40).map (·.size) = some (tm d).toArray.size) := Try.size40
      have hm0 : (0 : Int) ≤ (m : Int) := by omega
      have hm1 : (m : Int) ≤ 256 := by omega
      clear hcl ha hx H0 hmk hmp hnil hth
      go_wp2_with (first
        | (go_at_call_of 11 (Value.int IntKind.i64 g); refine (time_any g _ g0 g1).mono ?_; rintro e w1 ⟨rfl, hb1⟩; have S1 : Hid (Sx wr w1 zRow) := S0.out.later hb1)
        | (refine wpList_store_mid rfl 40 (.tmp 26) (.tmp 24) rfl wr.heap.size 7 (tm g).toArray rfl rfl ?_ jg.out (tm_one g) ?_; exact thereT S1 7 g rfl (by omega); obtain ⟨W1, hW1, T1⟩ := pk1 (g := g) S1; rw [hW1]; clear hW1 S0; obtain ⟨b0, b1, b2, b3, b4⟩ := hin W1 T1.out.below)
        | (go_at_call_of 11 (Value.int IntKind.i64 r); refine (time_any r _ r0 r1).mono ?_; rintro e w2 ⟨rfl, hb2⟩; have S2 : Hid (Sx wr w2 (cur1 g)) := T1.out.later hb2)
        | (refine wpList_store_mid rfl 40 (.tmp 34) (.tmp 32) rfl wr.heap.size 10 (tm r).toArray rfl rfl ?_ jr.out (tm_one r) ?_; exact thereT S2 10 r (cur1_size g) (by omega); obtain ⟨W2, hW2, T2⟩ := pk2 (r := r) S2; rw [hW2]; clear hW2 S1 T1; obtain ⟨e0, e1, e2, e3, e4⟩ := hin W2 T2.out.below)
        | (go_at_call_of 11 (Value.int IntKind.i64 d); refine (time_any d _ d0 d1).mono ?_; rintro e w3 ⟨rfl, hb3⟩; have S3 : Hid (Sx wr w3 (cur2 g r)) := T2.out.later hb3)
        | (refine wpList_store_mid rfl 40 (.tmp 41) (.tmp 40) rfl wr.heap.size 13 (tm d).toArray rfl rfl ?_ jd.out (tm_one d) ?_; exact thereT S3 13 d (cur2_size g r) (by omega); obtain ⟨W3, hW3, T3⟩ := pk3 (d := d) S3; rw [hW3]; clear hW3 S2 T2; obtain ⟨f0, f1, f2, f3, f4⟩ := hin W3 T3.out.below; obtain ⟨c16, c17, cf, csz, R3, B3⟩ := fin3 T3 t (some ⟨w.heap.size, 0, none⟩) m)
        | (refine wpList_load_mid rfl 44 (.tmp 6) rfl wr.heap.size 0 rfl (rL (some ⟨w.heap.size, 0, none⟩) (g, r, d, t, m)) _ ?_ Try.underlying44 rfl i44.out ?_; exact R3.out)
        | (refine wpList_store_mid rfl 44 (.tmp 60) (.tmp 59) rfl (w.heap.size + 1) (k * 18) (rL (some ⟨w.heap.size, 0, none⟩) (g, r, d, t, m)).toArray rfl rfl ?_ i44a.out hone.out ?_; exact (hth2 _ B3).out))
      go_roundw
      case rel => exact ⟨k + 1, by omega, by go_num, below_setCells (Nat.le_succ _) _ _ (HB.out.trans (B3.out.mono HB.out.size)), (HP.out.of_block (B3.out.block _ HP.out.lt)).step hlt HX.out⟩
      case measure => simp [intOf]; omega
    · have hkn : k = n := by omega
      subst hkn
      go_wp2
      go_ret
      exact ⟨rfl, HB.out, HP.out⟩
end Go.Proofs.Qxb6630841a
