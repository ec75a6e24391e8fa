import Derived.Test.Qxb6630808aFmtL1
import Derived.Deep.RegionLaw
import Derived.Lib.SliceRun
namespace Go.Proofs.Qxb6630808aFmt
open Go.RowKit

theorem Tryf.info30 : (Tryf.prog.info? 30).map (fun i => (i.zero, i.size, i.bytes)) = some (some (.agg #[.string ⟨#[]⟩, .string ⟨#[]⟩, .string ⟨#[]⟩, .string ⟨#[]⟩]), 4, 64) := by kernel_rfl

def zs4 : List Value := [.string ⟨#[]⟩, .string ⟨#[]⟩, .string ⟨#[]⟩, .string ⟨#[]⟩]

theorem run_clear1 (ty : TypeId) (b o c : Nat) (w : World) (hc : ∀ j, j < 4 → (w.cell? ⟨b, o + j, none⟩).isSome = true) (hf : ∀ j, j < 4 → w.frozen? ⟨b, o + j, none⟩ = false) :
    (Builtin.clear_ #[36] ty #[.slice (some ⟨b, o, none⟩) 1 c]).run Tryf.prog w = .ok (.tuple #[]) (w.setCells b o zs4) := by
  have hzc : (Builtin.zeroCells (Value.agg #[.string ⟨#[]⟩, .string ⟨#[]⟩, .string ⟨#[]⟩, .string ⟨#[]⟩]).cells 1).toList = zs4 := by kernel_rfl
  have hst := run_storeCells_cells (P := Tryf.prog) b o zs4 0 w (by simpa [zs4] using hc) (by simpa [zs4] using hf) (by intro v hv; simp [zs4] at hv; subst hv; rfl)
  simp only [Nat.add_zero] at hst
  have hv := Tryf.zeroValue30
  simp [Builtin.clear_, run_underlying Tryf.underlying36, hv, hzc, hst]


set_option maxHeartbeats 1000000 in
set_option maxRecDepth 100000 in
theorem del_any (blk cap i : Nat) (L : List Src) (w : World) (hr : RowL w 30 blk cap L) (_hcap : cap ≤ 4096) (hi : i < L.length) :
    Calls Tryf.prog 13 #[.slice (some ⟨blk, 0, none⟩) L.length cap, .int .i64 i, .int .i64 (i + 1)] w fun e w' => e = .returned (.slice (some ⟨blk, 0, none⟩) (L.length - 1) cap) ∧ RowL w' 30 blk cap (L.eraseIdx i) ∧ w.grownBy w' (some blk) := by
  obtain ⟨n, hn⟩ : ∃ n, n = L.length := ⟨_, rfl⟩
  have hle := hr.le
  obtain ⟨news, hnews⟩ : ∃ news, news = flat (L.drop (i + 1)) := ⟨_, rfl⟩
  have hlen : news.length = (n - (i + 1)) * 4 := by rw [hnews, flat_length, List.length_drop, hn]
  have hin : i < n := by omega
  have hnc : n ≤ cap := by omega
  rw [← hn]
  have s1 : Hid (news.length = (n - (i + 1)) * 4) := hlen
  have HN : Hid (n = L.length) := hn
  have s2 : Hid (∀ u ∈ news, u.oneCell' = true) := by rw [hnews]; exact fun u hu => flat_mem hu
  have hsome : ∀ k, k < cap * 4 → (w.cell? ⟨blk, k, none⟩).isSome = true := by
    obtain ⟨cur, h1, h2, _⟩ := hr
    intro k hk
    rw [cell_row h1, Array.getElem?_eq_getElem (by omega)]; rfl
  have s3 : Hid (∀ t, t < news.length → (w.drew.cell? ⟨blk, 0 + i * 4 + t, none⟩).isSome = true ∧ w.drew.frozen? ⟨blk, 0 + i * 4 + t, none⟩ = false) := by
    intro t ht
    rw [hlen] at ht
    exact ⟨hsome _ (by omega), hr.frozen _⟩
  obtain ⟨A, hA, hsrc⟩ : ∃ A : Addr, (if cap = i + 1 then some (⟨blk, 0, none⟩ : Addr) else some ⟨blk, (i + 1) * 4, none⟩) = some A ∧ Hid (∀ t u, news[t]? = some u → w.drew.cell? (A.add t) = some u) := by
    by_cases h : cap = i + 1
    · refine ⟨⟨blk, 0, none⟩, by simp [h], fun t u hu => ?_⟩
      have h0 : news.length = 0 := by rw [hlen]; omega
      rw [List.length_eq_zero_iff.1 h0] at hu
      simp at hu
    · refine ⟨⟨blk, (i + 1) * 4, none⟩, by simp [h], fun t u hu => ?_⟩
      rw [show (⟨blk, (i + 1) * 4, none⟩ : Addr).add t = ⟨blk, (i + 1) * 4 + t, none⟩ by unfold Addr.add; split <;> simp_all]
      show w.cell? _ = _
      obtain ⟨cur, h1, h2, h3, h4⟩ := hr
      rw [cell_row h1]
      rw [hnews, show t = t / 4 * 4 + t % 4 by omega, flat_get _ _ _ (by omega), List.getElem?_drop] at hu
      cases hx : L[i + 1 + t / 4]? with
      | none => rw [hx] at hu; cases hu
      | some x =>
        rw [hx] at hu
        have := h4 _ x hx (t % 4) u hu
        rw [← this]; congr 1; omega
  obtain ⟨W1, hW1⟩ : ∃ W1, W1 = w.drew.setCells blk (0 + i * 4) news := ⟨_, rfl⟩
  have hW : Hid (W1 = w.drew.setCells blk (0 + i * 4) news) := hW1
  have hW1c : ∀ k, W1.cell? ⟨blk, k, none⟩ = (w.drew.setCells blk (0 + i * 4) news).cell? ⟨blk, k, none⟩ := by rw [hW1]; exact fun _ => rfl
  have hrow1 : ∃ cur, W1.heap[blk]? = some (.cells cur 30 (0, 0)) ∧ cur.size = cap * 4 := by
    obtain ⟨cur, h1, h2, _⟩ := hr
    exact ⟨_, by rw [hW1]; exact heap_setCells_same blk 30 _ _ w.drew cur h1, by rw [size_putAll, h2]⟩
  have hcl : ∀ ty, (Builtin.clear_ #[36] ty #[.slice (some ⟨blk, (i + (n - (i + 1))) * 4, none⟩) (n - (i + (n - (i + 1)))) (cap - (i + (n - (i + 1))))]).run Tryf.prog W1 = .ok (.tuple #[]) (W1.setCells blk ((n - 1) * 4) zs4) := by
    intro ty
    obtain ⟨cur, h1, h2⟩ := hrow1
    rw [show i + (n - (i + 1)) = n - 1 by omega, show n - (n - 1) = 1 by omega]
    refine run_clear1 ty blk _ _ W1 (fun j hj => ?_) (fun j hj => frozen_row h1 _)
    rw [cell_row h1, Array.getElem?_eq_getElem (by omega)]; rfl
  have hend : Hid (RowL (W1.setCells blk ((n - 1) * 4) zs4) 30 blk cap (L.eraseIdx i) ∧ w.grownBy (W1.setCells blk ((n - 1) * 4) zs4) (some blk)) := by
    have hrd : RowL w.drew 30 blk cap L := hr
    rw [hW1, hnews, hn, Nat.zero_add]
    exact ⟨hrd.deleted hi zs4 rfl, grownBy_trans (grownBy_drew w _) (grownBy_trans (grownBy_setCells blk _ _ _) (grownBy_setCells blk _ _ _))⟩
  have hne : ((i : Int) == (i : Int) + 1) = false := by rw [beq_eq_false_iff_ne]; omega
  have hic : i ≤ cap := by omega
  have hjc : i + 1 ≤ cap := by omega
  have hi0 : (0 : Int) ≤ (i : Int) + 1 := by omega
  have hi1 : (i : Int) + 1 ≤ (n : Int) := by omega
  obtain ⟨i0, hinf, hz0, hz1, hz2⟩ := info_parts Tryf.info30
  clear hlen hn hle hi hnews hr hsome hW1c hW1 hrow1
  go_enter Tryf.func13, Tryf.ntmps13
  go_wp2_with fail
  go_region_law (refine step_append_room rfl (.tmp 22) (.tmp 25) 36 rfl 30 i0 4 Tryf.underlying36 hinf hz1 blk 0 i cap (by simp [Act.eval, Act.put]) A (n - (i + 1)) (cap - (i + 1)) news (by simp [Act.eval, Act.put]) s1.out hsrc.out s2.out (by omega) s3.out ?_; rw [← hW.out])
  go_wp2
  go_ret
  exact ⟨by rw [show i + (n - (i + 1)) = n - 1 by omega]; rfl, hend.out⟩
end Go.Proofs.Qxb6630808aFmt
