import Derived.Test.Qxb6608668aRows
import Derived.Test.Qxb6608668aRow
import Derived.WalkKit
import Derived.WalkSpells
import Derived.WalkLawsBesides
import Derived.Deep.RegionLaw
namespace Go.Proofs.Qxb6608668a
open Go.RowKit

theorem info9 : (Try.prog.info? 9).map (fun i => (i.zero, i.size, i.bytes)) = some (some (.string ByteArray.empty), 1, 16) := by kernel_rfl
theorem zero9 (w : World) : (zeroValue 9).run Try.prog w = .ok (.string ByteArray.empty) w := by kernel_rfl

set_option maxHeartbeats 1600000 in
set_option maxRecDepth 1000000 in
theorem delete_any (g cap n i : Nat) (ss : List ByteArray) (w : World) (h : Strs w g ss) (hn : ss.length = n) (hi : i < n) (hl : n ≤ cap) (hm : cap ≤ 9223372036854775807) :
    Calls Try.prog 18 #[.slice (some ⟨g, 0, none⟩) n cap, .int .i64 i, .int .i64 ((i : Int) + 1)] w fun e w' => e = .returned (.slice (some ⟨g, 0, none⟩) (n - 1) cap) ∧ Strs w' g (ss.eraseIdx i) ∧ w.grownBy w' (some g) := by
  obtain ⟨i0, hi0, hz0, hz1, hz2⟩ := info_parts info9
  have hml : (moved ss i).length = n - (i + 1) := by rw [moved_length, hn]
  obtain ⟨A, hA, hnews⟩ : ∃ A : Addr, (if cap = i + 1 then some (⟨g, 0, none⟩ : Addr) else some ⟨g, i + 1, none⟩) = some A ∧ Hid (∀ j u, (moved ss i)[j]? = some u → w.drew.cell? (A.add j) = some u) := by
    by_cases hc : cap = i + 1
    · refine ⟨⟨g, 0, none⟩, by simp [hc], fun j u hu => ?_⟩
      have h0 : (moved ss i).length = 0 := by omega
      rw [List.length_eq_zero_iff.1 h0] at hu
      simp at hu
    · refine ⟨⟨g, i + 1, none⟩, by simp [hc], fun j u hu => ?_⟩
      have hj : j < n - (i + 1) := by
        have := (List.getElem?_eq_some_iff.1 hu).1
        rwa [hml] at this
      rw [moved_get (by omega)] at hu
      rw [Addr.add_lit]
      exact (h (i + 1 + j) (by omega)).1.trans hu
  have s1 : Hid ((moved ss i).length = (n - (i + 1)) * 1) := by rw [Nat.mul_one]; exact hml
  have s2 : Hid (∀ u ∈ moved ss i, u.oneCell' = true) := moved_one ss i
  have s3 : Hid (∀ j, j < (moved ss i).length → (w.drew.cell? ⟨g, 0 + i * 1 + j, none⟩).isSome = true ∧ w.drew.frozen? ⟨g, 0 + i * 1 + j, none⟩ = false) := by
    intro j hj
    rw [hml] at hj
    rw [Nat.mul_one, Nat.zero_add]
    exact ⟨by show (w.cell? _).isSome = true; rw [(h (i + j) (by omega)).1]; rfl, (h (i + j) (by omega)).2⟩
  obtain ⟨W1, hW1⟩ : ∃ W1, W1 = w.drew.setCells g (0 + i * 1) (moved ss i) := ⟨_, rfl⟩
  have hM : Strs W1 g (ss.eraseIdx i) ∧ (W1.cell? ⟨g, n - 1, none⟩).isSome = true ∧ W1.frozen? ⟨g, n - 1, none⟩ = false := by
    have hd : Strs w.drew g ss := h
    have := hd.moved (i := i) (by omega)
    rw [hW1, Nat.mul_one, Nat.zero_add, ← hn]
    exact this
  have hG : w.grownBy W1 (some g) := by
    have := setCells_grown g (moved ss i) (0 + i * 1) w.drew
    rw [hW1]
    exact ⟨this.os, this.tape, this.output, this.size, this.block⟩
  have hcl : ∀ ty, (Builtin.clear_ #[22] ty #[.slice (some ⟨g, i + (n - (i + 1)), none⟩) (n - (i + (n - (i + 1)))) (cap - (i + (n - (i + 1))))]).run Try.prog W1 = .ok (.tuple #[]) (W1.setCells g (i + (n - (i + 1))) (List.replicate (n - (i + (n - (i + 1)))) (.string ByteArray.empty))) :=
    fun ty => Lib.run_clear_slice W1 22 9 ty _ Try.underlying22 zero9 rfl rfl g (i + (n - (i + 1))) _ _ (by omega) (fun t ht => by rw [show i + (n - (i + 1)) + t = n - 1 by omega]; exact hM.2.1) (fun t ht => by rw [show i + (n - (i + 1)) + t = n - 1 by omega]; exact hM.2.2)
  have hend : Strs (W1.setCells g (i + (n - (i + 1))) (List.replicate (n - (i + (n - (i + 1)))) (.string ByteArray.empty))) g (ss.eraseIdx i) := hM.1.cleared (by rw [List.length_eraseIdx, if_pos (by omega)]; omega)
  have hgr := hG.trans (setCells_grown g (List.replicate (n - (i + (n - (i + 1)))) (.string ByteArray.empty)) (i + (n - (i + 1))) W1)
  have hW : Hid (W1 = w.drew.setCells g (0 + i * 1) (moved ss i)) := hW1
  have E1 : Hid _ := hend
  have E2 : Hid _ := hgr
  have hic : i ≤ cap := by omega
  have hp0 : (0 : Int) ≤ (i : Int) + 1 := by omega
  have hp1 : (i : Int) + 1 ≤ (n : Int) := by omega
  have hp2 : ((i : Int) + 1).toNat = i + 1 := by omega
  clear hW1 hM hG h hml hend hgr hn
  go_enter Try.func18, Try.ntmps18
  go_wp2_with fail
  go_region_law (refine step_append_room rfl (.tmp 22) (.tmp 25) 22 rfl 9 i0 1 Try.underlying22 hi0 hz1 g 0 i cap (by simp [Act.eval, Act.put]) A (n - (i + 1)) (cap - (i + 1)) (moved ss i) (by simp [Act.eval, Act.put]) s1.out hnews.out s2.out (by omega) s3.out ?_; rw [← hW.out])
  go_wp2
  go_ret
  exact ⟨by rw [show i + (n - (i + 1)) = n - 1 by omega]; rfl, E1.out, E2.out⟩
end Go.Proofs.Qxb6608668a
