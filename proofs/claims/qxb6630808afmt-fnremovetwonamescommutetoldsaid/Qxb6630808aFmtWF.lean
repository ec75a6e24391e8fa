import Derived.Test.Qxb6630808aFmtP2
import Derived.Deep.RegionWith
namespace Go.Proofs.Qxb6630808aFmt
open Go.RowKit Go.Extern.Stop Go.Stop Go.Extern

def errV (f : Bool) (a : Addr) : Value := if f = true then .nilIface else .iface 54 (.pointer (some a))
def zeroS : Src := (⟨#[]⟩, ⟨#[]⟩, ⟨#[]⟩, ⟨#[]⟩)
def gotS (o : Option Src) : Src := o.getD zeroS

theorem remove_u (F : Interp) (cb sb cap : Nat) (ver : Int) (L : List Src) (D nm : ByteArray) (w : World) (hF : F.answers w.tape) (hS : St w cb sb cap ver L D) :
    Calls Tryf.prog 8 #[.pointer (some ⟨cb, 0, none⟩), .string nm] w fun e w' => ∃ ae : Addr, e = .returned (.tuple #[.agg #[.string (gotS (fnd nm L)).1, .string (gotS (fnd nm L)).2.1, .string (gotS (fnd nm L)).2.2.1, .string (gotS (fnd nm L)).2.2.2], errV (fnd nm L).isSome ae]) ∧
      St w' cb sb cap ver (era nm L) (dfl D nm L) ∧ Turned w w' cb sb := by
  rcases first_or nm L with hm | ⟨i, y, hi, hy, hm⟩
  · obtain ⟨e1, e2, e3⟩ := miss_of hm
    refine (remove_miss F cb sb cap ver L D nm w hF hS hm).mono ?_
    rintro e w' ⟨a, rfl, hb⟩
    rw [e1, e2, e3]
    exact ⟨a, rfl, hS.below hb, Turned.of_below hb cb sb⟩
  · obtain ⟨e1, e2⟩ := hit_of hi hy hm
    refine (remove_hit cb sb cap i ver L D nm y w hS hi hy hm).mono ?_
    rintro e w' ⟨rfl, h1, h2⟩
    have e3 : dfl D nm L = nextD D nm (L.eraseIdx i) := by simp [dfl, e1, e2]
    rw [e3, e2, e1]
    exact ⟨⟨0, 0, none⟩, rfl, h1, h2⟩

theorem St.view {w : World} {cb sb cap : Nat} {ver : Int} {L : List Src} {D : ByteArray} (h : St w cb sb cap ver L D) :
    ∃ sa sc, w.cell? ⟨cb, 0, none⟩ = some (.int .i64 ver) ∧ w.cell? ⟨cb, 1, none⟩ = some (.slice sa L.length sc) ∧ w.cell? ⟨cb, 2, none⟩ = some (.string D) ∧ (0 < L.length → sa = some ⟨sb, 0, none⟩) := by
  obtain ⟨sv, q1, _, _, q4⟩ := h
  obtain ⟨z0, z1, z2, _⟩ := row3 q1
  rcases q4 with ⟨rfl, rfl, _⟩ | ⟨rfl, _, _⟩
  · exact ⟨none, 0, z0, z1, z2, fun h0 => absurd h0 (by simp)⟩
  · exact ⟨_, _, z0, z1, z2, fun _ => rfl⟩

theorem St.elem {w : World} {cb sb cap m : Nat} {ver : Int} {L : List Src} {D : ByteArray} {x : Src} (h : St w cb sb cap ver L D) (hx : L[m]? = some x) :
    w.cell? ⟨sb, m * 4, none⟩ = some (.string x.1) ∧ w.cell? ⟨sb, m * 4 + 1, none⟩ = some (.string x.2.1) ∧ w.cell? ⟨sb, m * 4 + 2, none⟩ = some (.string x.2.2.1) ∧ w.cell? ⟨sb, m * 4 + 3, none⟩ = some (.string x.2.2.2) := by
  obtain ⟨sv, q1, _, _, q4⟩ := h
  rcases q4 with ⟨_, rfl, _⟩ | ⟨_, _, hr⟩
  · cases hx
  · have := hr.cells m _ hx
    simpa only [Nat.zero_add] using this

theorem St.len {w : World} {cb sb cap : Nat} {ver : Int} {L : List Src} {D : ByteArray} (h : St w cb sb cap ver L D) : L.length ≤ 4096 := by
  obtain ⟨sv, q1, _, h3, q4⟩ := h
  rcases q4 with ⟨_, rfl, _⟩ | ⟨_, _, hr⟩
  · simp
  · have := hr.le; omega

theorem below_undrewN {w w' : World} {k : Nat} (h : Below (w.drewN k).heap.size (w.drewN k) w') : Below w.heap.size w w' := ⟨h.os, h.tape, h.output, h.size, h.block⟩
theorem below_undrew' {w w' : World} (h : Below w.drew.heap.size w.drew w') : Below w.heap.size w w' := ⟨h.os, h.tape, h.output, h.size, h.block⟩

set_option maxHeartbeats 1000000 in
set_option maxRecDepth 100000 in
theorem sameConf (cb sb cap cb2 sb2 cap2 : Nat) (ver : Int) (L : List Src) (D : ByteArray) (w : World) (h1 : St w cb sb cap ver L D) (h2 : St w cb2 sb2 cap2 ver L D) :
    Calls Tryf.prog 11 #[.pointer (some ⟨cb, 0, none⟩), .pointer (some ⟨cb2, 0, none⟩)] w fun e w' => e = .returned (.bool true) ∧ Below w.heap.size w w' := by
  obtain ⟨sa, sc, a0, a1, a2, a3⟩ := h1.view
  obtain ⟨ta, tc, b0, b1, b2, b3⟩ := h2.view
  have hcb := h1.lt
  have hcb2 := h2.lt
  have hlen := h1.len
  obtain ⟨n, hn⟩ : ∃ n, n = L.length := ⟨_, rfl⟩
  rw [← hn] at a1 b1 a3 b3 hlen
  have HN : Hid (n = L.length) := hn
  have H1 : Hid (St w cb sb cap ver L D) := h1
  have H2 : Hid (St w cb2 sb2 cap2 ver L D) := h2
  clear hn h1 h2
  go_enter Tryf.func11, Tryf.ntmps11
  go_wp2
  go_quiet (fail)
  go_wp2
  go_loopw [5] (fun x wr => ∃ m : Nat, m ≤ n ∧ x = .int .i64 m ∧ Hid (Below w.heap.size w wr)) (fun x _ => n - (intOf x).toNat)
  case atStart => exact ⟨0, Nat.zero_le _, rfl, below_drewN' (Below.refl _ _) _⟩
  case round =>
    obtain ⟨m, hm, rfl, HB⟩ := hrel
    have d1 : wr.cell? ⟨cb, 1, none⟩ = some (.slice sa n sc) := (HB.out.cell (p := ⟨cb, 1, none⟩) hcb).trans a1
    have d2 : wr.cell? ⟨cb2, 1, none⟩ = some (.slice ta n tc) := (HB.out.cell (p := ⟨cb2, 1, none⟩) hcb2).trans b1
    by_cases hlt : m < n
    · obtain rfl := a3 (by omega)
      obtain rfl := b3 (by omega)
      obtain ⟨x, hx⟩ : ∃ x, L[m]? = some x := ⟨_, List.getElem?_eq_getElem (show m < L.length by have := HN.out; omega)⟩
      obtain ⟨c0, c1, c2, c3⟩ := (H1.out.below HB.out).elem hx
      obtain ⟨e0, e1, e2, e3⟩ := (H2.out.below HB.out).elem hx
      obtain ⟨s0, s1, s2, s3⟩ := x
      simp only at c0 c1 c2 c3 e0 e1 e2 e3
      have hmI : (m : Int) < (n : Int) := by omega
      have hm0 : (0 : Int) ≤ (m : Int) := by omega
      clear hx a0 a1 a2 a3 b0 b1 b2 b3
      go_wp2
      go_region_with (go_at_call 14; refine (sameSource_eq s0 s1 s2 s3 _).mono ?_; rintro e w6 ⟨rfl, hb6⟩; have hb7 := below_undrew' hb6; clear hb6)
      all_goals
        go_wp2
        go_roundw
        case rel => exact ⟨m + 1, by omega, by go_num, HB.out.trans (Below.mono (by assumption) HB.out.size)⟩
        case measure => simp [intOf]; omega
    · go_wp2
      go_ret
      exact ⟨rfl, HB.out⟩
end Go.Proofs.Qxb6630808aFmt
