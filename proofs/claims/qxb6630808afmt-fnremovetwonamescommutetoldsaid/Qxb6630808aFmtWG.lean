import Derived.Test.Qxb6630808aFmtP3
import Derived.Deep.CutRange
namespace Go.Proofs.Qxb6630808aFmt
open Go.RowKit Go.Extern.Stop Go.Stop Go.Extern

theorem errV_nil (f : Bool) (ae : Addr) (W : World) : (binOp .eql 32 (errV f ae) .nilIface).run Tryf.prog W = .ok (.bool f) W := by
  cases f
  · show (binOp .eql 32 (.iface 54 (.pointer (some ae))) .nilIface).run Tryf.prog W = _
    go_simp
  · show (binOp .eql 32 .nilIface .nilIface).run Tryf.prog W = _
    go_simp

theorem errV_guard (x : Operand) (f : Bool) (ae : Addr) (W : World) : (eqGuard .eql 32 x (.const .nilIface) (errV f ae) .nilIface).run Tryf.prog W = .ok () W := by
  cases f
  · show (eqGuard .eql 32 x (.const .nilIface) (.iface 54 (.pointer (some ae))) .nilIface).run Tryf.prog W = _
    simp [eqGuard, go_sem]
  · show (eqGuard .eql 32 x (.const .nilIface) .nilIface .nilIface).run Tryf.prog W = _
    simp [eqGuard, go_sem]

def Facts8 (W : World) (b1 b4 b o : Nat) (p0 p1 p2 p3 : ByteArray) : Prop :=
  (W.cell? ⟨b1, 0, none⟩ = some (.string p0) ∧ W.cell? ⟨b1, 1, none⟩ = some (.string p1) ∧ W.cell? ⟨b1, 2, none⟩ = some (.string p2) ∧ W.cell? ⟨b1, 3, none⟩ = some (.string p3)) ∧
  (W.cell? ⟨b4, 0, none⟩ = some (.string p0) ∧ W.cell? ⟨b4, 1, none⟩ = some (.string p1) ∧ W.cell? ⟨b4, 2, none⟩ = some (.string p2) ∧ W.cell? ⟨b4, 3, none⟩ = some (.string p3)) ∧
  W.cell? ⟨b, o, none⟩ = some (.string p0) ∧ W.cell? ⟨b, o + 1, none⟩ = some (.string p1) ∧ W.cell? ⟨b, o + 2, none⟩ = some (.string p2) ∧ W.cell? ⟨b, o + 3, none⟩ = some (.string p3)
theorem Box.cells {W : World} {b : Nat} {x : Src} (h : Box W b x) : W.cell? ⟨b, 0, none⟩ = some (.string x.1) ∧ W.cell? ⟨b, 1, none⟩ = some (.string x.2.1) ∧ W.cell? ⟨b, 2, none⟩ = some (.string x.2.2.1) ∧ W.cell? ⟨b, 3, none⟩ = some (.string x.2.2.2) := by
  obtain ⟨h0, h1, h2, h3, _⟩ := row4 h
  exact ⟨h0, h1, h2, h3⟩
theorem facts8_of {W : World} {b1 b4 b o : Nat} {p0 p1 p2 p3 : ByteArray} (h1 : Box W b1 (p0, p1, p2, p3)) (h2 : Box W b4 (p0, p1, p2, p3))
    (h3 : W.cell? ⟨b, o, none⟩ = some (.string p0) ∧ W.cell? ⟨b, o + 1, none⟩ = some (.string p1) ∧ W.cell? ⟨b, o + 2, none⟩ = some (.string p2) ∧ W.cell? ⟨b, o + 3, none⟩ = some (.string p3)) : Facts8 W b1 b4 b o p0 p1 p2 p3 := ⟨h1.cells, h2.cells, h3⟩

theorem below_chain {a b c : World} (h : Below a.heap.size a b) (k : Below b.heap.size b c) : Below a.heap.size a c := h.trans (k.mono h.size)

section
variable {w W : World} {cb1 sb1 cap1 cb2 sb2 cap2 : Nat} {ver : Int} {M1 M2 : List Src} {D1 D2 : ByteArray}

theorem rem1 (F : Interp) (nm g0 g1 g2 g3 : ByteArray) (f : Bool) (hF : F.answers w.tape) (T : Hid (Two w W cb1 sb1 cap1 cb2 sb2 cap2 ver M1 D1 M2 D2)) (hg : gotS (fnd nm M1) = (g0, g1, g2, g3)) (hf : f = (fnd nm M1).isSome) :
    Calls Tryf.prog 8 #[.pointer (some ⟨cb1, 0, none⟩), .string nm] W fun e w' => ∃ ae : Addr, e = .returned (.tuple #[.agg #[.string g0, .string g1, .string g2, .string g3], errV f ae]) ∧ Hid (Two w w' cb1 sb1 cap1 cb2 sb2 cap2 ver (era nm M1) (dfl D1 nm M1) M2 D2) ∧ Hid (Turned W w' cb1 sb1) := by
  have h := remove_u F cb1 sb1 cap1 ver M1 D1 nm W (by rw [T.out.below.tape]; exact hF) T.out.st1
  rw [hg, ← hf] at h
  refine h.mono ?_
  rintro e w' ⟨ae, rfl, h1, h2⟩
  exact ⟨ae, rfl, T.out.first h1 h2, h2⟩

theorem rem2 (F : Interp) (nm g0 g1 g2 g3 : ByteArray) (f : Bool) (hF : F.answers w.tape) (T : Hid (Two w W cb1 sb1 cap1 cb2 sb2 cap2 ver M1 D1 M2 D2)) (hg : gotS (fnd nm M2) = (g0, g1, g2, g3)) (hf : f = (fnd nm M2).isSome) :
    Calls Tryf.prog 8 #[.pointer (some ⟨cb2, 0, none⟩), .string nm] W fun e w' => ∃ ae : Addr, e = .returned (.tuple #[.agg #[.string g0, .string g1, .string g2, .string g3], errV f ae]) ∧ Hid (Two w w' cb1 sb1 cap1 cb2 sb2 cap2 ver M1 D1 (era nm M2) (dfl D2 nm M2)) ∧ Hid (Turned W w' cb2 sb2) := by
  have h := remove_u F cb2 sb2 cap2 ver M2 D2 nm W (by rw [T.out.below.tape]; exact hF) T.out.st2
  rw [hg, ← hf] at h
  refine h.mono ?_
  rintro e w' ⟨ae, rfl, h1, h2⟩
  exact ⟨ae, rfl, T.out.second h1 h2, h2⟩

theorem Two.lts (T : Two w W cb1 sb1 cap1 cb2 sb2 cap2 ver M1 D1 M2 D2) : cb1 < W.heap.size ∧ sb1 < W.heap.size ∧ cb2 < W.heap.size ∧ sb2 < W.heap.size := ⟨T.st1.lt, T.st1.lt', T.st2.lt, T.st2.lt'⟩
end

/-- A box beside the two configurations. -/
def BoxB (wr : World) (cb1 sb1 cb2 sb2 b : Nat) (g0 g1 g2 g3 : ByteArray) : Prop := Box wr b (g0, g1, g2, g3) ∧ b ≠ cb1 ∧ b ≠ sb1 ∧ b ≠ cb2 ∧ b ≠ sb2
theorem BoxB.later {wr w' : World} {cb1 sb1 cb2 sb2 b : Nat} {g0 g1 g2 g3 : ByteArray} (h : BoxB wr cb1 sb1 cb2 sb2 b g0 g1 g2 g3) (hb : Below wr.heap.size wr w') : BoxB w' cb1 sb1 cb2 sb2 b g0 g1 g2 g3 := ⟨h.1.later hb, h.2⟩
theorem BoxB.turned1 {wr w' : World} {cb1 sb1 cb2 sb2 b : Nat} {g0 g1 g2 g3 : ByteArray} (h : BoxB wr cb1 sb1 cb2 sb2 b g0 g1 g2 g3) (hT : Turned wr w' cb1 sb1) : BoxB w' cb1 sb1 cb2 sb2 b g0 g1 g2 g3 := ⟨h.1.turned hT h.2.1 h.2.2.1, h.2⟩
theorem BoxB.turned2 {wr w' : World} {cb1 sb1 cb2 sb2 b : Nat} {g0 g1 g2 g3 : ByteArray} (h : BoxB wr cb1 sb1 cb2 sb2 b g0 g1 g2 g3) (hT : Turned wr w' cb2 sb2) : BoxB w' cb1 sb1 cb2 sb2 b g0 g1 g2 g3 := ⟨h.1.turned hT h.2.2.2.1 h.2.2.2.2, h.2⟩
theorem BoxB.new {w wr : World} {cb1 sb1 cap1 cb2 sb2 cap2 : Nat} {ver : Int} {M1 M2 : List Src} {D1 D2 : ByteArray} (T : Two w wr cb1 sb1 cap1 cb2 sb2 cap2 ver M1 D1 M2 D2) (g0 g1 g2 g3 : ByteArray) :
    BoxB (wr.alloc (.cells #[.string g0, .string g1, .string g2, .string g3] 30)) cb1 sb1 cb2 sb2 wr.heap.size g0 g1 g2 g3 := by
  obtain ⟨l1, l2, l3, l4⟩ := T.lts
  exact ⟨Box.new wr (g0, g1, g2, g3), by omega, by omega, by omega, by omega⟩

theorem two_start {w w4 w5 : World} {cb1 sb1 cap1 cb2 sb2 cap2 : Nat} {ver : Int} {L : List Src} {d : ByteArray} (hB : Below w.heap.size w w4) (h1 : St w4 cb1 sb1 cap1 ver L d) (hc1 : w.heap.size ≤ cb1) (hs1 : w.heap.size ≤ sb1)
    (h2 : St w5 cb2 sb2 cap2 ver L d) (hc2 : w4.heap.size ≤ cb2) (hs2 : w4.heap.size ≤ sb2) (hb : Below w4.heap.size w4 w5) : Two w w5 cb1 sb1 cap1 cb2 sb2 cap2 ver L d L d := by
  have l1 := h1.lt
  have l2 := h1.lt'
  have l3 := hB.size
  exact ⟨hB.trans (hb.mono l3), h1.below hb, h2, hc1, hs1, by omega, by omega, by omega, by omega, by omega, by omega⟩

set_option maxHeartbeats 4000000 in
set_option maxRecDepth 100000 in
theorem two_any (F : Interp) (ver : Int) (a : Option Addr) (n cap : Nat) (L : List Src) (d na nb : ByteArray) (w : World) (hF : F.answers w.tape) (hA : ArgL w a n cap L) (hn : n ≤ maxLen) (hd : d.size ≤ maxLen) (hna : na.size ≤ maxLen) (hnb : nb.size ≤ maxLen) :
    Calls Tryf.prog 4 #[.int .i64 ver, .slice a n cap, .string d, .string na, .string nb] w fun e w' => e = .returned (.bool true) ∧ Below w.heap.size w w' := by
  have c5 := bytes2_L ver a n cap L d na nb w hA hn hd hna hnb
  have HA : Hid (ArgL w a n cap L) := hA
  have HS : ∀ W, Hid (Below w.heap.size w W) → Calls Tryf.prog 6 #[.slice a n cap, .string d, .string na, .string nb] W fun e w' => ∃ r : Bool, e = .returned (.bool r) ∧ Below W.heap.size W w' := by
    intro W hW
    exact size_L a n cap L d na nb W (hA.below hW.out) hn hd hna hnb
  unfold maxLen at hn hd hna hnb
  clear hA
  go_enter Tryf.func4, Tryf.ntmps4
  go_wp2_with fail
  refine c5.mono ?_
  rintro e w1 ⟨r, rfl, HB1, Hr1⟩
  cases r with
  | false =>
    go_wp2
    go_ret
    exact ⟨rfl, HB1⟩
  | true =>
    have hs1 : Hid (nameSum L ≤ 1048576) := Hr1 rfl
    have hB1 : Hid (Below w.heap.size w w1) := HB1
    clear Hr1 HB1 c5
    by_cases hn1 : n ≤ 4096
    · go_wp2_with fail
      refine (HS w1 hB1).mono ?_
      rintro e w2 ⟨r, rfl, HB2⟩
      have hB2 : Hid (Below w.heap.size w w2) := hB1.out.trans (HB2.mono hB1.out.size)
      clear HB2 HS
      cases r with
      | false =>
        go_wp2
        go_ret
        exact ⟨rfl, hB2.out⟩
      | true =>
        cases hab : (na.toList == nb.toList) with
        | true =>
          go_wp2
          go_ret
          exact ⟨rfl, hB2.out⟩
        | false =>
          have HAB : Hid (¬ na.toList = nb.toList) := (by simpa using hab : ¬ na.toList = nb.toList)
          go_wp2
          go_loop [11, 12, 13] (fun x y i => ∃ (k : Nat) (za zb : Int), k ≤ n ∧ i = .int .i64 k ∧ x = .int .i64 za ∧ y = .int .i64 zb ∧ Hid (za = fx na L k) ∧ Hid (zb = fx nb L k)) (fun _ _ i => n - (intOf i).toNat)
          case atStart => exact ⟨0, -1, -1, Nat.zero_le _, rfl, rfl, rfl, rfl, rfl⟩
          case round =>
            obtain ⟨k, za, zb, hk, rfl, rfl, rfl, HZA, HZB⟩ := hrel
            by_cases hlt : k < n
            · have hltI : (k : Int) < (n : Int) := by omega
              have hA2 := HA.out.below hB2.out
              obtain ⟨b, off, rfl, hbw, hcl⟩ := hA2.at (by omega)
              obtain ⟨x, hx⟩ : ∃ x, L[k]? = some x := ⟨_, List.getElem?_eq_getElem (show k < L.length by have := hA2.1; omega)⟩
              obtain ⟨c0, c1, c2, c3⟩ := hcl k x hx
              obtain ⟨s0, s1, s2, s3⟩ := x
              simp only at c0 c1 c2 c3
              have HX : Hid (L[k]? = some (s0, s1, s2, s3)) := hx
              clear hA2 hcl hx hab c1 c2 c3
              go_wp2
              all_goals
                go_round
                case rel =>
                  refine ⟨k + 1, _, _, by omega, by go_num, rfl, rfl, ?_, ?_⟩
                  · first
                      | exact (fx_hit HX.out HZA (by assumption) (show (s0.toList == na.toList) = true by assumption)).symm
                      | exact (fx_miss HX.out HZA (show (s0.toList == na.toList) = false by assumption)).symm
                      | exact (fx_old HZA (by assumption)).symm
                  · first
                      | exact (fx_hit HX.out HZB (by assumption) (show (s0.toList == nb.toList) = true by assumption)).symm
                      | exact (fx_miss HX.out HZB (show (s0.toList == nb.toList) = false by assumption)).symm
                      | exact (fx_old HZB (by assumption)).symm
                case measure => simp [intOf]; omega
            · have hkn : k = n := by omega
              subst hkn
              have HL : Hid (k = L.length) := HA.out.1
              obtain ⟨hia, hia2⟩ := fx_end na L
              obtain ⟨hib, hib2⟩ := fx_end nb L
              rw [← HL.out, ← HZA.out] at hia hia2
              rw [← HL.out, ← HZB.out] at hib hib2
              obtain ⟨fa, hfa⟩ : ∃ fa, fa = (fnd na L).isSome := ⟨_, rfl⟩
              obtain ⟨fb, hfb⟩ : ∃ fb, fb = (fnd nb L).isSome := ⟨_, rfl⟩
              rw [← hfa] at hia hia2
              rw [← hfb] at hib hib2
              have HFA : Hid (fa = (fnd na L).isSome) := hfa
              have HFB : Hid (fb = (fnd nb L).isSome) := hfb
              have HIA : Hid (fa = true → ∃ i : Nat, za = i ∧ L[i]? = some (gotS (fnd na L))) := hia2
              have HIB : Hid (fb = true → ∃ i : Nat, zb = i ∧ L[i]? = some (gotS (fnd nb L))) := hib2
              obtain ⟨ba0, ba1⟩ := b2i_bd fa
              obtain ⟨bb0, bb1⟩ := b2i_bd fb
              clear hia2 hib2 hfa hfb hab
              go_upto_if 75 with fail
              go_cut [14] from 74 to 77 (fun t wc => t = .int .i64 (b2i fa) ∧ wc = w2)
              case first =>
                cases fa with
                | true =>
                  go_wp2
                  go_meet
                  case rel => exact ⟨rfl, rfl⟩
                | false =>
                  go_wp2
                  go_meet
                  case rel => exact ⟨rfl, rfl⟩
              case rest =>
                obtain ⟨rfl, rfl⟩ := hcut
                go_upto_if 79 with fail
                go_cut [14] from 78 to 81 (fun t wx => t = .int .i64 (b2i fa + b2i fb) ∧ wx = wc)
                case first =>
                  cases fb with
                  | true =>
                    go_wp2
                    go_meet
                    case rel => exact ⟨rfl, rfl⟩
                  | false =>
                    go_wp2
                    go_meet
                    case rel => exact ⟨by simp [b2i], rfl⟩
                case rest =>
                  obtain ⟨rfl, rfl⟩ := hcut
                  have c7 := build_L ver a k cap L d _ (HA.out.below hB2.out) hn1 hs1.out
                  have hsz2 := hB2.out.size
                  go_wp2_with fail
                  refine c7.mono ?_
                  rintro e w4 ⟨cb1, sb1, cap1, rfl, hSt1, hcb1, hsb1, hb4⟩
                  have hB4 : Hid (Below w.heap.size w w4) := hB2.out.trans (hb4.mono hB2.out.size)
                  have c8 := build_L ver a k cap L d w4 (HA.out.below hB4.out) hn1 hs1.out
                  clear c7 hb4
                  go_wp2_with fail
                  refine c8.mono ?_
                  rintro e w5 ⟨cb2, sb2, cap2, rfl, hSt2, hcb2, hsb2, hb5⟩
                  have T5 : Hid (Two w w5 cb1 sb1 cap1 cb2 sb2 cap2 ver L d L d) := two_start hB4.out hSt1 (by omega) (by omega) hSt2 hcb2 hsb2 hb5
                  clear c8 hb5 hSt1 hSt2 hcb1 hsb1 hcb2 hsb2
                  obtain ⟨⟨p0, p1, p2, p3⟩, hga⟩ : ∃ g : Src, gotS (fnd na L) = g := ⟨_, rfl⟩
                  obtain ⟨⟨q0, q1, q2, q3⟩, hgb⟩ : ∃ g : Src, gotS (fnd nb L) = g := ⟨_, rfl⟩
                  have HGA : Hid (gotS (fnd na L) = (p0, p1, p2, p3)) := hga
                  have HGB : Hid (gotS (fnd nb L) = (q0, q1, q2, q3)) := hgb
                  have hba : ¬ nb.toList = na.toList := fun h => HAB.out h.symm
                  have HBA : Hid (¬ nb.toList = na.toList) := hba
                  clear hga hgb hba
                  go_wp2_with fail
                  refine (rem1 F na p0 p1 p2 p3 fa hF T5 HGA.out HFA.out).mono ?_
                  rintro e w6 ⟨ae1, rfl, T6, U6⟩
                  have X1 : Hid (BoxB _ cb1 sb1 cb2 sb2 _ p0 p1 p2 p3) := BoxB.new T6.out p0 p1 p2 p3
                  have T7 : Hid (Two w (w6.alloc (.cells #[.string p0, .string p1, .string p2, .string p3] 30)) cb1 sb1 cap1 cb2 sb2 cap2 ver _ _ _ _) := T6.out.later ((Below.refl _ _).alloc (Nat.le_refl _) _)
                  clear T5 T6 U6
                  go_wp2_with fail
                  refine (rem1 F nb q0 q1 q2 q3 fb hF T7 (by rw [fnd_era HAB.out]; exact HGB.out) (by rw [fnd_era HAB.out]; exact HFB.out)).mono ?_
                  rintro e w7 ⟨ae2, rfl, T8, U8⟩
                  have X2 : Hid (BoxB _ cb1 sb1 cb2 sb2 _ p0 p1 p2 p3) := (X1.out.turned1 U8.out).later ((Below.refl _ _).alloc (Nat.le_refl _) (.cells #[.string q0, .string q1, .string q2, .string q3] 30))
                  have Y2 : Hid (BoxB _ cb1 sb1 cb2 sb2 _ q0 q1 q2 q3) := BoxB.new T8.out q0 q1 q2 q3
                  have T9 : Hid (Two w (w7.alloc (.cells #[.string q0, .string q1, .string q2, .string q3] 30)) cb1 sb1 cap1 cb2 sb2 cap2 ver _ _ _ _) := T8.out.later ((Below.refl _ _).alloc (Nat.le_refl _) _)
                  clear T7 T8 U8 X1
                  go_wp2_with fail
                  refine (rem2 F nb q0 q1 q2 q3 fb hF T9 HGB.out HFB.out).mono ?_
                  rintro e w8 ⟨ae3, rfl, T10, U10⟩
                  have X3 : Hid (BoxB _ cb1 sb1 cb2 sb2 _ p0 p1 p2 p3) := (X2.out.turned2 U10.out).later ((Below.refl _ _).alloc (Nat.le_refl _) (.cells #[.string q0, .string q1, .string q2, .string q3] 30))
                  have Y3 : Hid (BoxB _ cb1 sb1 cb2 sb2 _ q0 q1 q2 q3) := (Y2.out.turned2 U10.out).later ((Below.refl _ _).alloc (Nat.le_refl _) (.cells #[.string q0, .string q1, .string q2, .string q3] 30))
                  have Z3 : Hid (BoxB _ cb1 sb1 cb2 sb2 _ q0 q1 q2 q3) := BoxB.new T10.out q0 q1 q2 q3
                  have T11 : Hid (Two w (w8.alloc (.cells #[.string q0, .string q1, .string q2, .string q3] 30)) cb1 sb1 cap1 cb2 sb2 cap2 ver _ _ _ _) := T10.out.later ((Below.refl _ _).alloc (Nat.le_refl _) _)
                  clear T9 T10 U10 X2 Y2
                  go_wp2_with fail
                  refine (rem2 F na p0 p1 p2 p3 fa hF T11 (by rw [fnd_era HBA.out]; exact HGA.out) (by rw [fnd_era HBA.out]; exact HFA.out)).mono ?_
                  rintro e w9 ⟨ae4, rfl, T12, U12⟩
                  have X4 : Hid (BoxB (w9.alloc (.cells #[.string p0, .string p1, .string p2, .string p3] 30)) cb1 sb1 cb2 sb2 w6.heap.size p0 p1 p2 p3) := (X3.out.turned2 U12.out).later ((Below.refl _ _).alloc (Nat.le_refl _) (.cells #[.string p0, .string p1, .string p2, .string p3] 30))
                  have Y4 : Hid (BoxB (w9.alloc (.cells #[.string p0, .string p1, .string p2, .string p3] 30)) cb1 sb1 cb2 sb2 w7.heap.size q0 q1 q2 q3) := (Y3.out.turned2 U12.out).later ((Below.refl _ _).alloc (Nat.le_refl _) (.cells #[.string p0, .string p1, .string p2, .string p3] 30))
                  have Z4 : Hid (BoxB (w9.alloc (.cells #[.string p0, .string p1, .string p2, .string p3] 30)) cb1 sb1 cb2 sb2 w8.heap.size q0 q1 q2 q3) := (Z3.out.turned2 U12.out).later ((Below.refl _ _).alloc (Nat.le_refl _) (.cells #[.string p0, .string p1, .string p2, .string p3] 30))
                  have V4 : Hid (BoxB (w9.alloc (.cells #[.string p0, .string p1, .string p2, .string p3] 30)) cb1 sb1 cb2 sb2 w9.heap.size p0 p1 p2 p3) := BoxB.new T12.out p0 p1 p2 p3
                  have T13 : Hid (Two w (w9.alloc (.cells #[.string p0, .string p1, .string p2, .string p3] 30)) cb1 sb1 cap1 cb2 sb2 cap2 ver (era nb (era na L)) (dfl (dfl d na L) nb (era na L)) (era na (era nb L)) (dfl (dfl d nb L) na (era nb L))) := T12.out.later ((Below.refl _ _).alloc (Nat.le_refl _) _)
                  clear T11 T12 U12 X3 Y3 Z3
                  go_upto_region 29 with fail
                  generalize w9.alloc (.cells #[.string p0, .string p1, .string p2, .string p3] 30) = Wf at T13 X4 Y4 Z4 V4 ⊢
                  generalize w6.heap.size = b1 at X4 ⊢
                  generalize w7.heap.size = b2 at Y4 ⊢
                  generalize w8.heap.size = b3 at Z4 ⊢
                  generalize w9.heap.size = b4 at V4 ⊢
                  have herr := errV_nil
                  have herr2 := errV_guard
                  go_upto_region 33 with fail
                  have HAW : Hid (ArgL Wf a k cap L) := HA.out.below T13.out.below
                  go_cut [157] from 138 to 157 (fun t wx => t = .bool false ∧ Hid (Below Wf.heap.size Wf wx))
                  case first =>
                    cases fa with
                    | true =>
                      obtain ⟨i, hzi, hi⟩ := HIA.out rfl
                      subst hzi
                      rw [HGA.out] at hi
                      have hik : i < k := by rw [HL.out]; exact (List.getElem?_eq_some_iff.1 hi).1
                      obtain ⟨b, off, rfl, hbw, hcl⟩ := HAW.out.at (by omega)
                      have hfacts : ∀ W, Below Wf.heap.size Wf W → Facts8 W b1 b4 b (off + i * 4) p0 p1 p2 p3 := fun W hW => facts8_of (X4.out.1.later hW) (V4.out.1.later hW) ((hcl.below hbw hW) i _ hi)
                      obtain ⟨⟨x0, x1, x2, x3⟩, ⟨v0, v1, v2, v3⟩, y0, y1, y2, y3⟩ := hfacts Wf (Below.refl _ _)
                      have hI0 : (0 : Int) ≤ (i : Int) := by omega
                      have hI1 : (i : Int) < (k : Int) := by omega
                      clear hi hcl
                      go_region_with (go_at_call 9; refine (same_eq p0 p1 p2 p3 _).mono ?_; rintro e wy ⟨rfl, hby⟩; first | (have hbz := below_undrew' hby; clear hby; obtain ⟨⟨x0, x1, x2, x3⟩, ⟨v0, v1, v2, v3⟩, y0, y1, y2, y3⟩ := hfacts wy hbz) | skip)
                      all_goals go_wp2
                      all_goals go_meet
                      all_goals exact ⟨rfl, below_chain hbz hby⟩
                    | false =>
                      go_quiet (fail)
                      go_wp2
                      go_meet
                      case rel => exact ⟨rfl, below_drewN' (Below.refl _ _) _⟩
                  case rest =>
                    obtain ⟨rfl, HBc⟩ := hcut
                    have T14 : Hid (Two w wc cb1 sb1 cap1 cb2 sb2 cap2 ver (era nb (era na L)) (dfl (dfl d na L) nb (era na L)) (era na (era nb L)) (dfl (dfl d nb L) na (era nb L))) := T13.out.later HBc.out
                    have Y5 : Hid (BoxB wc cb1 sb1 cb2 sb2 b2 q0 q1 q2 q3) := Y4.out.later HBc.out
                    have Z5 : Hid (BoxB wc cb1 sb1 cb2 sb2 b3 q0 q1 q2 q3) := Z4.out.later HBc.out
                    have HAX : Hid (ArgL wc a k cap L) := HAW.out.below HBc.out
                    clear T13 X4 Y4 Z4 V4 HAW HBc
                    go_upto_region 35 with fail
                    go_cut [177] from 158 to 177 (fun t wx => t = .bool false ∧ Hid (Below wc.heap.size wc wx))
                    case first =>
                      cases fb with
                      | true =>
                        obtain ⟨i, hzi, hi⟩ := HIB.out rfl
                        subst hzi
                        rw [HGB.out] at hi
                        have hik : i < k := by rw [HL.out]; exact (List.getElem?_eq_some_iff.1 hi).1
                        obtain ⟨b, off, rfl, hbw, hcl⟩ := HAX.out.at (by omega)
                        have hfacts : ∀ W, Below wc.heap.size wc W → Facts8 W b2 b3 b (off + i * 4) q0 q1 q2 q3 := fun W hW => facts8_of (Y5.out.1.later hW) (Z5.out.1.later hW) ((hcl.below hbw hW) i _ hi)
                        obtain ⟨⟨x0, x1, x2, x3⟩, ⟨v0, v1, v2, v3⟩, y0, y1, y2, y3⟩ := hfacts wc (Below.refl _ _)
                        have hI0 : (0 : Int) ≤ (i : Int) := by omega
                        have hI1 : (i : Int) < (k : Int) := by omega
                        clear hi hcl
                        go_region_with (go_at_call 9; refine (same_eq q0 q1 q2 q3 _).mono ?_; rintro e wy ⟨rfl, hby⟩; first | (have hbz := below_undrew' hby; clear hby; obtain ⟨⟨x0, x1, x2, x3⟩, ⟨v0, v1, v2, v3⟩, y0, y1, y2, y3⟩ := hfacts wy hbz) | skip)
                        all_goals go_wp2
                        all_goals go_meet
                        all_goals exact ⟨rfl, below_chain hbz hby⟩
                      | false =>
                        go_quiet (fail)
                        go_wp2
                        go_meet
                        case rel => exact ⟨rfl, below_drewN' (Below.refl _ _) _⟩
                    case rest =>
                      obtain ⟨rfl, HBd⟩ := hcut
                      have T15 : Hid (Two w _ cb1 sb1 cap1 cb2 sb2 cap2 ver (era nb (era na L)) (dfl (dfl d na L) nb (era na L)) (era na (era nb L)) (dfl (dfl d nb L) na (era nb L))) := T14.out.later HBd.out
                      obtain ⟨sa, sc, z0, z1, z2, _⟩ := T15.out.st1.view
                      have hst2 := T15.out.st2
                      rw [← era_comm HAB.out, ← dfl_comm HAB.out] at hst2
                      have c11 := sameConf cb1 sb1 cap1 cb2 sb2 cap2 ver _ _ _ T15.out.st1 hst2
                      have HBE : Hid (Below w.heap.size w _) := T15.out.below
                      have hlen := len_two HAB.out L
                      rw [← HL.out, ← HFA.out, ← HFB.out] at hlen
                      have hlen2 : (((era nb (era na L)).length : Int) != (k : Int) - (b2i fa + b2i fb)) = false := by rw [hlen]; simp
                      generalize (era nb (era na L)).length = m1 at z1 hlen2 hlen
                      have HLEN : Hid ((m1 : Int) = (k : Int) - (b2i fa + b2i fb)) := hlen
                      clear T14 T15 Y5 Z5 HAX HBd hst2 hlen
                      go_wp2_with (go_at_call 11; refine c11.mono ?_; rintro e w12 ⟨rfl, hb12⟩)
                      go_ret
                      exact ⟨rfl, HBE.out.trans (hb12.mono HBE.out.size)⟩
    · have hn2 : (4096 : Int) < (n : Int) := by omega
      go_wp2
      go_ret
      exact ⟨rfl, hB1.out⟩
end Go.Proofs.Qxb6630808aFmt
