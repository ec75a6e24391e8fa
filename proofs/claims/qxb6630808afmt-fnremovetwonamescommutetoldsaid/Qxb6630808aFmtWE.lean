import Derived.Test.Qxb6630808aFmtP1
import Derived.Deep.RegionWith
import Derived.Deep.CutRange
namespace Go.Proofs.Qxb6630808aFmt
open Go.RowKit Go.Extern.Stop Go.Stop Go.Extern

def namedK (nm : ByteArray) (L : List Src) (k : Nat) : List Src := (L.take k).filter (isN nm)
def keptK (nm : ByteArray) (L : List Src) (k : Nat) : List Src := (L.take k).filter (fun x => !isN nm x)

theorem part_len (nm : ByteArray) (L : List Src) (k : Nat) : (namedK nm L k).length + (keptK nm L k).length ≤ k := by
  have h1 : ∀ M : List Src, (M.filter (isN nm)).length + (M.filter (fun x => !isN nm x)).length = M.length := by
    intro M
    induction M with
    | nil => rfl
    | cons a r ih => cases h : isN nm a <;> simp [h] <;> omega
  have := h1 (L.take k)
  have h2 : (L.take k).length ≤ k := List.length_take_le _ _
  show ((L.take k).filter _).length + ((L.take k).filter _).length ≤ k
  omega

theorem namedK_hit {nm : ByteArray} {L : List Src} {k : Nat} {x : Src} (hx : L[k]? = some x) (h : isN nm x = true) : namedK nm L (k + 1) = namedK nm L k ++ [x] ∧ keptK nm L (k + 1) = keptK nm L k := by
  simp [namedK, keptK, List.take_add_one, hx, h]
theorem namedK_miss {nm : ByteArray} {L : List Src} {k : Nat} {x : Src} (hx : L[k]? = some x) (h : isN nm x = false) : namedK nm L (k + 1) = namedK nm L k ∧ keptK nm L (k + 1) = keptK nm L k ++ [x] := by
  simp [namedK, keptK, List.take_add_one, hx, h]

/-- The first loop's relation on the world: the two rows. -/
structure Parts (w1 wr : World) (nm : ByteArray) (L : List Src) (n k p q : Nat) : Prop where
  below : Below w1.heap.size w1 wr
  hp : p = (namedK nm L k).length
  hq : q = (keptK nm L k).length
  rowN : RowL wr 26 w1.heap.size n (namedK nm L k)
  rowK : RowL wr 26 (w1.heap.size + 1) n (keptK nm L k)

theorem Parts.start {w1 : World} {nm : ByteArray} {L : List Src} {n : Nat} {MC : Array Value} (h : MC.size = n * 4) : Parts w1 ((w1.alloc (.cells MC 26)).alloc (.cells MC 26)) nm L n 0 0 0 := by
  have e0 : namedK nm L 0 = [] := by simp [namedK]
  have e1 : keptK nm L 0 = [] := by simp [keptK]
  refine ⟨((Below.refl _ _).alloc (Nat.le_refl _) _).alloc (by simp) _, by rw [e0]; rfl, by rw [e1]; rfl, ?_, ?_⟩
  · rw [e0]
    exact ⟨MC, (Below.heap_alloc _ _ _ (by simp)).trans (heap_alloc_new w1 _), h, Nat.zero_le _, fun j x hj => by cases hj⟩
  · rw [e1]
    have := heap_alloc_new (w1.alloc (.cells MC 26)) (.cells MC 26)
    rw [show (w1.alloc (.cells MC 26)).heap.size = w1.heap.size + 1 by simp] at this
    exact ⟨MC, this, h, Nat.zero_le _, fun j x hj => by cases hj⟩

theorem below_of_grown {B nb : Nat} {a wr W : World} (h : Below B a wr) (hg : wr.grownBy W (some nb)) (hB : B ≤ wr.heap.size) (hn : B ≤ nb) : Below B a W :=
  h.grown hg hB (fun k hk => by cases hk; exact hn)

theorem Parts.hit {w1 wr : World} {nm : ByteArray} {L : List Src} {n k p q : Nat} {s0 s1 s2 s3 : ByteArray} (h : Parts w1 wr nm L n k p q) (hk : k < n) (hx : L[k]? = some (s0, s1, s2, s3)) (ht : isN nm (s0, s1, s2, s3) = true) :
    ∃ W2 : World, (∀ ty, (Builtin.append_ #[22, 22] ty #[.slice (some ⟨w1.heap.size, 0, none⟩) p n, .slice (some ⟨wr.heap.size, 0, none⟩) 1 1]).run Tryf.prog (wr.alloc (.cells #[.string s0, .string s1, .string s2, .string s3] 26)) = .ok (.slice (some ⟨w1.heap.size, 0, none⟩) (p + 1) n) W2) ∧ Hid (Parts w1 W2 nm L n (k + 1) (p + 1) q) := by
  have hl := part_len nm L k
  obtain ⟨hb, hp, hq, h1, h2⟩ := h
  obtain ⟨W2, r1, r2, r3⟩ := app1 wr w1.heap.size n p (namedK nm L k) s0 s1 s2 s3 h1 hp (by omega)
  obtain ⟨e1, e2⟩ := namedK_hit (nm := nm) hx ht
  refine ⟨W2, r1, below_of_grown hb r3 hb.size (Nat.le_refl _), by rw [e1]; simp [hp], by rw [e2]; exact hq, by rw [e1]; exact r2, ?_⟩
  rw [e2]
  exact h2.of_block (r3.block _ h2.lt (by simp))

theorem Parts.miss {w1 wr : World} {nm : ByteArray} {L : List Src} {n k p q : Nat} {s0 s1 s2 s3 : ByteArray} (h : Parts w1 wr nm L n k p q) (hk : k < n) (hx : L[k]? = some (s0, s1, s2, s3)) (ht : isN nm (s0, s1, s2, s3) = false) :
    ∃ W2 : World, (∀ ty, (Builtin.append_ #[22, 22] ty #[.slice (some ⟨w1.heap.size + 1, 0, none⟩) q n, .slice (some ⟨wr.heap.size, 0, none⟩) 1 1]).run Tryf.prog (wr.alloc (.cells #[.string s0, .string s1, .string s2, .string s3] 26)) = .ok (.slice (some ⟨w1.heap.size + 1, 0, none⟩) (q + 1) n) W2) ∧ Hid (Parts w1 W2 nm L n (k + 1) p (q + 1)) := by
  have hl := part_len nm L k
  obtain ⟨hb, hp, hq, h1, h2⟩ := h
  obtain ⟨W2, r1, r2, r3⟩ := app1 wr (w1.heap.size + 1) n q (keptK nm L k) s0 s1 s2 s3 h2 hq (by omega)
  obtain ⟨e1, e2⟩ := namedK_miss (nm := nm) hx ht
  refine ⟨W2, r1, below_of_grown hb r3 hb.size (by omega), by rw [e1]; exact hp, by rw [e2]; simp [hq], ?_, by rw [e2]; exact r2⟩
  rw [e1]
  exact h1.of_block (r3.block _ h1.lt (by simp))

/-- The second loop's relation on the world. -/
structure Inv2 (w wr : World) (nb kb cb sb cap' n : Nat) (ver : Int) (nm d : ByteArray) (L : List Src) (g : Nat) (L' : List Src) (D' : ByteArray) : Prop where
  below : Below w.heap.size w wr
  st : St wr cb sb cap' ver L' D'
  left : Left L d nm g L' D'
  rowN : RowL wr 26 nb n (L.filter (isN nm))
  rowK : RowL wr 26 kb n (L.filter (fun x => !isN nm x))
  apart : w.heap.size ≤ cb ∧ w.heap.size ≤ sb ∧ nb ≠ cb ∧ nb ≠ sb ∧ kb ≠ cb ∧ kb ≠ sb ∧ w.heap.size ≤ nb ∧ w.heap.size ≤ kb

theorem Inv2.later {w wr w' : World} {nb kb cb sb cap' n : Nat} {ver : Int} {nm d : ByteArray} {L : List Src} {g : Nat} {L' : List Src} {D' : ByteArray} (h : Inv2 w wr nb kb cb sb cap' n ver nm d L g L' D') (hb : Below wr.heap.size wr w') :
    Inv2 w w' nb kb cb sb cap' n ver nm d L g L' D' :=
  ⟨h.below.trans (hb.mono h.below.size), h.st.below hb, h.left, h.rowN.of_block (hb.block nb h.rowN.lt), h.rowK.of_block (hb.block kb h.rowK.lt), h.apart⟩

theorem Inv2.removed {w wr w' : World} {nb kb cb sb cap' n : Nat} {ver : Int} {nm d : ByteArray} {L : List Src} {g i : Nat} {L' : List Src} {D' : ByteArray} {y : Src} (h : Inv2 w wr nb kb cb sb cap' n ver nm d L g L' D')
    (hi : L'[i]? = some y) (hy : isN nm y = true) (hm : ∀ j x, j < i → L'[j]? = some x → isN nm x = false)
    (hS : St w' cb sb cap' ver (L'.eraseIdx i) (nextD D' nm (L'.eraseIdx i))) (hT : Turned wr w' cb sb) :
    Inv2 w w' nb kb cb sb cap' n ver nm d L (g + 1) (L'.eraseIdx i) (nextD D' nm (L'.eraseIdx i)) ∧ (L.filter (isN nm))[g]? = some y := by
  obtain ⟨a1, a2, a3, a4, a5, a6, a7, a8⟩ := h.apart
  obtain ⟨l1, l2⟩ := h.left.step hi hy hm
  exact ⟨⟨h.below.trans (hT.below a1 a2 h.below.size), hS, l1, h.rowN.of_block (hT.block nb h.rowN.lt a3 a4), h.rowK.of_block (hT.block kb h.rowK.lt a5 a6), h.apart⟩, l2⟩

theorem below_undrew {w w' : World} (h : Below w.drew.heap.size w.drew w') : Below w.heap.size w w' := ⟨h.os, h.tape, h.output, h.size, h.block⟩

/-- The third loop's relation on the world: the configuration's slice is (sa, q, sc). -/
def At3 (wr : World) (cb : Nat) (sa : Option Addr) (q sc : Nat) (P : Prop) : Prop := wr.cell? ⟨cb, 1, none⟩ = some (.slice sa q sc) ∧ P

theorem at3_later {w wr w' : World} {nb kb cb sb cap' n : Nat} {ver : Int} {nm d : ByteArray} {L : List Src} {g : Nat} {L' : List Src} {D' : ByteArray} {sa : Option Addr} {q sc : Nat} (h : At3 wr cb sa q sc (Inv2 w wr nb kb cb sb cap' n ver nm d L g L' D')) (hb : Below wr.heap.size wr w') :
    At3 w' cb sa q sc (Inv2 w w' nb kb cb sb cap' n ver nm d L g L' D') := ⟨(hb.cell (p := ⟨cb, 1, none⟩) h.2.st.lt).trans h.1, h.2.later hb⟩

theorem at3_cells {w wr : World} {nb kb cb sb cap' n : Nat} {ver : Int} {nm d : ByteArray} {L : List Src} {g : Nat} {L' : List Src} {D' : ByteArray} {q sc m : Nat} (h : At3 wr cb (some ⟨sb, 0, none⟩) q sc (Inv2 w wr nb kb cb sb cap' n ver nm d L g L' D')) (hm : m < q)
    (HQ : Hid (q = L'.length)) (HE : Hid (L' = L.filter (fun x => !isN nm x))) :
    ∃ x : Src, L'[m]? = some x ∧ (wr.cell? ⟨sb, m * 4, none⟩ = some (.string x.1) ∧ wr.cell? ⟨sb, m * 4 + 1, none⟩ = some (.string x.2.1) ∧ wr.cell? ⟨sb, m * 4 + 2, none⟩ = some (.string x.2.2.1) ∧ wr.cell? ⟨sb, m * 4 + 3, none⟩ = some (.string x.2.2.2)) ∧
      (wr.cell? ⟨kb, m * 4, none⟩ = some (.string x.1) ∧ wr.cell? ⟨kb, m * 4 + 1, none⟩ = some (.string x.2.1) ∧ wr.cell? ⟨kb, m * 4 + 2, none⟩ = some (.string x.2.2.1) ∧ wr.cell? ⟨kb, m * 4 + 3, none⟩ = some (.string x.2.2.2)) ∧ wr.cell? ⟨cb, 1, none⟩ = some (.slice (some ⟨sb, 0, none⟩) q sc) := by
  have hq := HQ.out
  have hx : L'[m]? = some (L'[m]'(by omega)) := List.getElem?_eq_getElem _
  obtain ⟨sv, q1, _, _, q4⟩ := h.2.st
  refine ⟨_, hx, ?_, ?_, h.1⟩
  · rcases q4 with ⟨_, e, _⟩ | ⟨_, _, hr⟩
    · rw [e] at hq; simp at hq; omega
    · have := hr.cells m _ hx
      simpa only [Nat.zero_add] using this
  · have hk := h.2.rowK.cells
    rw [← HE.out] at hk
    have := hk m _ hx
    simpa only [Nat.zero_add] using this

def wantD (d nm : ByteArray) (N K : List Src) : ByteArray := if (d.toList == nm.toList) = true ∧ 0 < N.length then firstN K else d

theorem Parts.first {w1 wr : World} {nm : ByteArray} {L : List Src} {n k p q : Nat} (h : Parts w1 wr nm L n k p q) (h0 : 0 < q) : ∃ x0, wr.cell? ⟨w1.heap.size + 1, 0, none⟩ = some (.string x0) ∧ x0 = firstN (keptK nm L k) := by
  have hq := h.hq
  have hc := h.rowK.cells
  cases hK : keptK nm L k with
  | nil => rw [hK] at hq; simp at hq; omega
  | cons x r =>
    rw [hK] at hc
    have := (hc 0 x rfl).1
    exact ⟨x.1, by simpa using this, rfl⟩

theorem tb_yes {tb : Bool} {d nm : ByteArray} {p : Nat} (HT : Hid (tb = (d.toList == nm.toList && decide ((0 : Int) < (p : Int))))) (h : d.toList = nm.toList) : Value.bool (decide (0 < p)) = .bool tb := by
  rw [HT.out, h]; simp
theorem tb_no {tb : Bool} {d nm : ByteArray} {p : Nat} (HT : Hid (tb = (d.toList == nm.toList && decide ((0 : Int) < (p : Int))))) (h : ¬ d.toList = nm.toList) : Value.bool false = .bool tb := by
  rw [HT.out]; simp [h]
theorem want_first {d nm x0 : ByteArray} {p : Nat} {N K : List Src} (HT : Hid (true = (d.toList == nm.toList && decide ((0 : Int) < (p : Int))))) (HP : Hid (p = N.length)) (HX : Hid (x0 = firstN K)) : Value.string x0 = .string (wantD d nm N K) := by
  have h := HT.out; have h1 := HP.out
  simp at h
  rw [HX.out, wantD, if_pos ⟨by simp [h.1], by omega⟩]
theorem want_none {d nm : ByteArray} {p q : Nat} {N K : List Src} (HT : Hid (true = (d.toList == nm.toList && decide ((0 : Int) < (p : Int))))) (HP : Hid (p = N.length)) (HQ : Hid (q = K.length)) (h0 : ¬ 0 < q) : Value.string ⟨#[]⟩ = .string (wantD d nm N K) := by
  have h := HT.out; have h1 := HP.out; have h2 := HQ.out
  simp at h
  have : K = [] := List.length_eq_zero_iff.1 (by omega)
  rw [wantD, if_pos ⟨by simp [h.1], by omega⟩, this, firstN]
theorem want_keep {d nm : ByteArray} {p : Nat} {N K : List Src} (HT : Hid (false = (d.toList == nm.toList && decide ((0 : Int) < (p : Int))))) (HP : Hid (p = N.length)) : Value.string d = .string (wantD d nm N K) := by
  have h := HT.out; have h1 := HP.out
  rw [wantD, if_neg]
  rintro ⟨h2, h3⟩
  rw [h2] at h
  simp at h
  omega

theorem inv2_start {w w2 wx w4 : World} {a : Option Addr} {cap k p q cb sb cap' : Nat} {ver : Int} {nm d : ByteArray} {L : List Src} (HA : Hid (ArgL w a k cap L)) (hB2 : Hid (Below w.heap.size w w2)) (HP : Hid (Parts w2 wx nm L k k p q))
    (hSt : St w4 cb sb cap' ver L d) (hcb : wx.heap.size ≤ cb) (hsb : wx.heap.size ≤ sb) (hb4 : Below wx.heap.size wx w4) : Inv2 w w4 w2.heap.size (w2.heap.size + 1) cb sb cap' k ver nm d L 0 L d := by
  have hk : L.take k = L := by rw [HA.out.1, List.take_length]
  have hN : namedK nm L k = L.filter (isN nm) := by rw [namedK, hk]
  have hK : keptK nm L k = L.filter (fun x => !isN nm x) := by rw [keptK, hk]
  have h1 := HP.out.rowN
  have h2 := HP.out.rowK
  rw [hN] at h1
  rw [hK] at h2
  have s1 := h1.lt
  have s2 := h2.lt
  have s3 := hB2.out.size
  have hB3 : Below w.heap.size w wx := hB2.out.trans (HP.out.below.mono hB2.out.size)
  exact ⟨hB3.trans (hb4.mono hB3.size), hSt, Left.start L d nm, h1.of_block (hb4.block _ s1), h2.of_block (hb4.block _ s2), by omega, by omega, by omega, by omega, by omega, by omega, by omega, by omega⟩

theorem lens_end {w : World} {a : Option Addr} {cap k p q : Nat} {nm : ByteArray} {L : List Src} (HA : Hid (ArgL w a k cap L)) (HP : Hid (p = (namedK nm L k).length)) (HQ : Hid (q = (keptK nm L k).length)) :
    p = (L.filter (isN nm)).length ∧ q = (L.filter (fun x => !isN nm x)).length := by
  have hk : L.take k = L := by rw [HA.out.1, List.take_length]
  have h1 := HP.out
  have h2 := HQ.out
  rw [namedK, hk] at h1
  rw [keptK, hk] at h2
  exact ⟨h1, h2⟩
theorem want_end {w : World} {a : Option Addr} {cap k : Nat} {nm d : ByteArray} {L : List Src} (HA : Hid (ArgL w a k cap L)) :
    wantD d nm (namedK nm L k) (keptK nm L k) = curD d nm (L.filter (isN nm)).length (L.filter (fun x => !isN nm x)) := by
  have hk : L.take k = L := by rw [HA.out.1, List.take_length]
  rw [namedK, keptK, hk]; rfl

set_option maxHeartbeats 4000000 in
set_option maxRecDepth 100000 in
theorem until_any (F : Interp) (ver : Int) (a : Option Addr) (n cap : Nat) (L : List Src) (d nm : ByteArray) (w : World) (hF : F.answers w.tape) (hA : ArgL w a n cap L) (hn : n ≤ maxLen) (hd : d.size ≤ maxLen) (hnm : nm.size ≤ maxLen) :
    Calls Tryf.prog 3 #[.int .i64 ver, .slice a n cap, .string d, .string nm] w fun e w' => e = .returned (.bool true) ∧ Below w.heap.size w w' := by
  have c5 := bytes_L ver a n cap L d nm w hA hn hd hnm
  have HA : Hid (ArgL w a n cap L) := hA
  have HS : ∀ W, Hid (Below w.heap.size w W) → Calls Tryf.prog 6 #[.slice a n cap, .string d, .string nm, .string ⟨#[]⟩] W fun e w' => ∃ r : Bool, e = .returned (.bool r) ∧ Below W.heap.size W w' := by
    intro W hW
    exact size_L a n cap L d nm ⟨#[]⟩ W (hA.below hW.out) hn hd hnm (by show 0 ≤ maxLen; omega)
  unfold maxLen at hn hd hnm
  clear hA
  go_enter Tryf.func3, Tryf.ntmps3
  go_wp2_with fail
  refine c5.mono ?_
  rintro e w1 ⟨r, rfl, HB1, Hr1⟩
  cases r with
  | false =>
    go_wp2
    go_ret
    exact ⟨rfl, HB1⟩
  | true =>
    have hs1 : Hid (nameSum L ≤ 1048576) := Hr1 rfl
    have hB1 : Hid (Below w.heap.size w w1) := HB1
    clear Hr1 HB1 c5
    by_cases hn1 : n ≤ 4096
    · go_wp2_with fail
      refine (HS w1 hB1).mono ?_
      rintro e w2 ⟨r, rfl, HB2⟩
      have hB2 : Hid (Below w.heap.size w w2) := hB1.out.trans (HB2.mono hB1.out.size)
      clear HB2
      cases r with
      | false =>
        go_wp2
        go_ret
        exact ⟨rfl, hB2.out⟩
      | true =>
        obtain ⟨MC, hMC, hmk⟩ := make26 n hn1
        have hMC' : Hid (MC.size = n * 4) := hMC
        clear hMC
        go_wp2
        go_loopw [9, 10, 11] (fun x y i wr => ∃ k p q : Nat, k ≤ n ∧ i = .int .i64 k ∧ x = .slice (some ⟨w2.heap.size, 0, none⟩) p n ∧ y = .slice (some ⟨w2.heap.size + 1, 0, none⟩) q n ∧ Hid (Parts w2 wr nm L n k p q)) (fun _ _ i _ => n - (intOf i).toNat)
        case atStart => exact ⟨0, 0, 0, Nat.zero_le _, rfl, rfl, rfl, Parts.start hMC'.out⟩
        case round =>
          obtain ⟨k, p, q, hk, rfl, rfl, rfl, HP⟩ := hrel
          by_cases hlt : k < n
          · have hltI : (k : Int) < (n : Int) := by omega
            have hA2 := (HA.out.below hB2.out).below HP.out.below
            obtain ⟨b, off, rfl, hbw, hcl⟩ := hA2.at (by omega)
            obtain ⟨x, hx⟩ : ∃ x, L[k]? = some x := ⟨_, List.getElem?_eq_getElem (show k < L.length by have := hA2.1; omega)⟩
            obtain ⟨c0, c1, c2, c3⟩ := hcl k x hx
            obtain ⟨s0, s1, s2, s3⟩ := x
            simp only at c0 c1 c2 c3
            clear hA2 hcl
            cases ht : isN nm (s0, s1, s2, s3) with
            | true =>
              obtain ⟨W2, hap, HP2⟩ := HP.out.hit hlt hx ht
              have ht' : (s0.toList == nm.toList) = true := ht
              clear hx ht HS
              go_wp2_with (at_builtin; refine wpList_append_run _ rfl _ _ 22 rfl _ _ _ W2 rfl rfl hap ?_)
              go_roundw
              case rel => exact ⟨k + 1, p + 1, q, by omega, by go_num, rfl, rfl, HP2⟩
              case measure => simp [intOf]; omega
            | false =>
              obtain ⟨W2, hap, HP2⟩ := HP.out.miss hlt hx ht
              have ht' : (s0.toList == nm.toList) = false := ht
              clear hx ht HS
              go_wp2_with (at_builtin; refine wpList_append_run _ rfl _ _ 22 rfl _ _ _ W2 rfl rfl hap ?_)
              go_roundw
              case rel => exact ⟨k + 1, p, q + 1, by omega, by go_num, rfl, rfl, HP2⟩
              case measure => simp [intOf]; omega
          · have hkn : k = n := by omega
            subst hkn
            have hrk : 0 < q → ∃ x0, wr.cell? ⟨w2.heap.size + 1, 0, none⟩ = some (.string x0) ∧ x0 = firstN (keptK nm L k) := HP.out.first
            have hrp : p = (namedK nm L k).length := HP.out.hp
            have hrq : q = (keptK nm L k).length := HP.out.hq
            obtain ⟨tb, htb⟩ : ∃ tb : Bool, tb = (d.toList == nm.toList && decide ((0 : Int) < (p : Int))) := ⟨_, rfl⟩
            have HT : Hid (tb = (d.toList == nm.toList && decide ((0 : Int) < (p : Int)))) := htb
            have HRP : Hid (p = (namedK nm L k).length) := hrp
            have HRQ : Hid (q = (keptK nm L k).length) := hrq
            clear htb hrp hrq
            go_upto_region 16 with fail
            go_cut [74] from 66 to 74 (fun t wc => t = .bool tb ∧ wc = wr)
            case first =>
              go_wp2
              all_goals go_meet
              case rel => exact ⟨tb_yes HT ‹_›, rfl⟩
              case rel => exact ⟨tb_no HT ‹_›, rfl⟩
            case rest =>
              obtain ⟨rfl, rfl⟩ := hcut
              go_upto_if 74 with fail
              go_cut [12] from 66 to 81 (fun s12 wx => s12 = .string (wantD d nm (namedK nm L k) (keptK nm L k)) ∧ wx = wc)
              case first =>
                cases tb with
                | true =>
                  by_cases hq0 : 0 < q
                  · obtain ⟨x0, hx0, hx1⟩ := hrk hq0
                    have HX : Hid (x0 = firstN (keptK nm L k)) := hx1
                    have hq1 : (0 : Int) < (q : Int) := by omega
                    clear hx1 hrk
                    go_wp2
                    go_meet
                    case rel => exact ⟨want_first HT HRP HX, rfl⟩
                  · have hq1 : ¬ (0 : Int) < (q : Int) := by omega
                    clear hrk
                    go_wp2
                    go_meet
                    case rel => exact ⟨want_none HT HRP HRQ hq0, rfl⟩
                | false =>
                  go_wp2
                  go_meet
                  case rel => exact ⟨want_keep HT HRP, rfl⟩
              case rest =>
                obtain ⟨rfl, rfl⟩ := hcut
                have c7 := build_L ver a k cap L d _ ((HA.out.below hB2.out).below HP.out.below) hn1 hs1.out
                clear hrk hmk HS
                go_wp2_with fail
                refine c7.mono ?_
                rintro e w4 ⟨cb, sb, cap', rfl, hSt, hcb, hsb, hb4⟩
                have hI : Hid (Inv2 w w4 w2.heap.size (w2.heap.size + 1) cb sb cap' k ver nm d L 0 L d) := inv2_start HA hB2 HP hSt hcb hsb hb4
                clear c7 hSt hcb hsb hb4
                have HPN : Hid (p = (L.filter (isN nm)).length ∧ q = (L.filter (fun x => !isN nm x)).length) := lens_end HA HRP HRQ
                have HW : Hid (wantD d nm (namedK nm L k) (keptK nm L k) = curD d nm (L.filter (isN nm)).length (L.filter (fun x => !isN nm x))) := want_end HA
                have hpk : p ≤ k := by have := HPN.out.1; have := HA.out.1; have := List.length_filter_le (isN nm) L; omega
                have hqk : q ≤ k := by have := HPN.out.2; have := HA.out.1; have := List.length_filter_le (fun x => !isN nm x) L; omega
                generalize wantD d nm (namedK nm L k) (keptK nm L k) = wd at HW ⊢
                generalize w2.heap.size = nb at hI ⊢
                generalize nb + 1 = kb at hI ⊢
                go_wp2
                go_loopw [14, 15] (fun x y wr => ∃ (g : Nat) (L' : List Src) (D' : ByteArray), g ≤ p ∧ x = .int .i64 g ∧ y = .int .i64 g ∧ Hid (Inv2 w wr nb kb cb sb cap' k ver nm d L g L' D')) (fun x _ _ => k + 1 - (intOf x).toNat)
                case atStart => exact ⟨0, L, d, Nat.zero_le _, rfl, rfl, hI⟩
                case round =>
                  obtain ⟨g, L', D', hg, rfl, rfl, HI⟩ := hrel
                  rcases first_or nm L' with hmiss | ⟨i, y, hi, hy, hm⟩
                  · have c8 := remove_miss F cb sb cap' ver L' D' nm wr (by rw [HI.out.below.tape]; exact hF) HI.out.st hmiss
                    obtain ⟨e1, e2, e3⟩ := HI.out.left.fin hmiss
                    obtain rfl : g = p := e1.trans HPN.out.1.symm
                    rw [← HW.out] at e3
                    subst e3
                    have HE : Hid (L' = L.filter (fun x => !isN nm x)) := e2
                    have HQL : Hid (q = L'.length) := by rw [e2]; exact HPN.out.2
                    have hbw := HI.out.st.lt
                    have hconf : ∀ W, Below wr.heap.size wr W → ∃ sa sc, W.cell? ⟨cb, 0, none⟩ = some (.int .i64 ver) ∧ W.cell? ⟨cb, 1, none⟩ = some (.slice sa q sc) ∧ W.cell? ⟨cb, 2, none⟩ = some (.string D') ∧ (0 < q → sa = some ⟨sb, 0, none⟩) ∧ cb < W.heap.size ∧ Hid (Inv2 w W nb kb cb sb cap' k ver nm d L g L' D') := by
                      intro W hW
                      have hI2 := HI.out.later hW
                      have hlt2 := hI2.st.lt
                      have hI3 := hI2
                      obtain ⟨sv, q1, _, _, q4⟩ := hI2.st
                      obtain ⟨z0, z1, z2, _⟩ := row3 q1
                      rcases q4 with ⟨rfl, rfl, _⟩ | ⟨rfl, _, _⟩
                      · have hq0 : q = 0 := HQL.out
                        exact ⟨none, 0, z0, by rw [hq0]; exact z1, z2, by omega, hlt2, hI3⟩
                      · exact ⟨some ⟨sb, 0, none⟩, cap', z0, by rw [HQL.out]; exact z1, z2, fun _ => rfl, hlt2, hI3⟩
                    clear hmiss e1 e2
                    go_wp2_with (go_at_call 8; refine c8.mono ?_; rintro e w5 ⟨ae, rfl, hb5⟩; obtain ⟨sa, sc, z0, z1, z2, hsa, hcb5, HI5⟩ := hconf w5 hb5)
                    have H3 : Hid (At3 (w5.alloc (.cells #[.string ⟨#[]⟩, .string ⟨#[]⟩, .string ⟨#[]⟩, .string ⟨#[]⟩] 30)) cb sa q sc (Inv2 w (w5.alloc (.cells #[.string ⟨#[]⟩, .string ⟨#[]⟩, .string ⟨#[]⟩, .string ⟨#[]⟩] 30)) nb kb cb sb cap' k ver nm d L g L' D')) :=
                      at3_later ⟨z1, HI5.out⟩ ((Below.refl _ _).alloc (Nat.le_refl _) _)
                    clear hconf z0 z1 z2 HI5 HI c8
                    go_loopw [18] (fun x wr3 => ∃ m : Nat, m ≤ q ∧ x = .int .i64 m ∧ Hid (At3 wr3 cb sa q sc (Inv2 w wr3 nb kb cb sb cap' k ver nm d L g L' D'))) (fun x _ => q - (intOf x).toNat)
                    case atStart => exact ⟨0, Nat.zero_le _, rfl, H3⟩
                    case round =>
                      obtain ⟨m, hm, rfl, H4⟩ := hrel
                      by_cases hmq : m < q
                      · obtain rfl := hsa (by omega)
                        obtain ⟨x, hx, hcx, hkx, hc1⟩ := at3_cells H4.out hmq HQL HE
                        obtain ⟨s0, s1, s2, s3⟩ := x
                        obtain ⟨c0, c1, c2, c3⟩ := hcx
                        obtain ⟨d0, d1, d2, d3⟩ := hkx
                        simp only at c0 c1 c2 c3 d0 d1 d2 d3
                        have hmI : (m : Int) < (q : Int) := by omega
                        have hm0 : (0 : Int) ≤ (m : Int) := by omega
                        clear hx H3
                        go_wp2
                        go_region_with (go_at_call 9; refine (same_eq s0 s1 s2 s3 _).mono ?_; rintro e w6 ⟨rfl, hb6⟩; have hb7 := below_undrew hb6; clear hb6)
                        all_goals
                          go_wp2
                          go_roundw
                          case rel => exact ⟨m + 1, by omega, by go_num, at3_later H4.out (by assumption)⟩
                          case measure => simp [intOf]; omega
                      · go_wp2
                        go_ret
                        exact ⟨rfl, H4.out.2.below⟩
                  · obtain ⟨y0, y1, y2, y3⟩ := y
                    have c8 := remove_hit cb sb cap' i ver L' D' nm (y0, y1, y2, y3) wr HI.out.st hi hy hm
                    have hrem : ∀ W, Hid (St W cb sb cap' ver (L'.eraseIdx i) (nextD D' nm (L'.eraseIdx i))) → Hid (Turned wr W cb sb) → (W.cell? ⟨nb, g * 4, none⟩ = some (.string y0) ∧ W.cell? ⟨nb, g * 4 + 1, none⟩ = some (.string y1) ∧ W.cell? ⟨nb, g * 4 + 2, none⟩ = some (.string y2) ∧ W.cell? ⟨nb, g * 4 + 3, none⟩ = some (.string y3)) ∧ nb < W.heap.size ∧ Hid (Inv2 w W nb kb cb sb cap' k ver nm d L (g + 1) (L'.eraseIdx i) (nextD D' nm (L'.eraseIdx i))) := by
                      intro W hS hT
                      obtain ⟨r1, r2⟩ := HI.out.removed hi hy hm hS.out hT.out
                      have := r1.rowN.cells g _ r2
                      simp only [Nat.zero_add] at this
                      exact ⟨this, r1.rowN.lt, r1⟩
                    have hgp : g < p := by
                      have h1 := (HI.out.left.step hi hy hm).2
                      have h2 := (List.getElem?_eq_some_iff.1 h1).1
                      have h3 := HPN.out.1
                      omega
                    have hgpI : (g : Int) < (p : Int) := by omega
                    have hg0 : (0 : Int) ≤ (g : Int) := by omega
                    clear hi hy hm HI hI
                    go_wp2_with (go_at_call 8; refine c8.mono ?_; rintro e w5 ⟨rfl, hS5, hT5⟩; obtain ⟨⟨c0, c1, c2, c3⟩, hnb5, HI5⟩ := hrem w5 hS5 hT5; clear hS5 hT5)
                    go_region_with (go_at_call 9; refine (same_eq y0 y1 y2 y3 _).mono ?_; rintro e w6 ⟨rfl, hb6⟩; have hb7 := below_undrew hb6; clear hb6)
                    all_goals
                      go_wp2
                      go_roundw
                      case rel => exact ⟨g + 1, _, _, by omega, by go_num, by go_num, (HI5.out.later ((Below.refl _ _).alloc (Nat.le_refl _) _)).later (by assumption)⟩
                      case measure => simp [intOf]; omega
    · have hn2 : (4096 : Int) < (n : Int) := by omega
      go_wp2
      go_ret
      exact ⟨rfl, hB1.out⟩
end Go.Proofs.Qxb6630808aFmt
