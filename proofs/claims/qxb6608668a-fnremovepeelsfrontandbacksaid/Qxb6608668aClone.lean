import Derived.Test.Qxb6608668aOps
namespace Go.Proofs.Qxb6608668a
open Go.RowKit

/-- The names as they came in. -/
def Arg (w : World) (b off n : Nat) (ss : List ByteArray) : Prop :=
  ss.length = n ∧ b < w.heap.size ∧ ∀ j, j < n → w.cell? ⟨b, off + j, none⟩ = some (.string (ss.getD j ByteArray.empty)) ∧ (ss.getD j ByteArray.empty).size ≤ 9223372036854775807

theorem Arg.below {W w : World} {b off n : Nat} {ss : List ByteArray} (h : Arg W b off n ss) (hb : Below W.heap.size W w) : Arg w b off n ss :=
  ⟨h.1, by have := hb.size; have := h.2.1; omega, fun j hj => ⟨(hb.cell (p := ⟨b, off + j, none⟩) h.2.1).trans (h.2.2 j hj).1, (h.2.2 j hj).2⟩⟩

set_option maxHeartbeats 1000000 in
theorem clone_any (w : World) (b off n cap : Nat) (ss : List ByteArray) (h : Arg w b off n ss) (hn : 0 < n) (hs : n ≤ 1048576) :
    Calls Try.prog 8 #[.slice (some ⟨b, off, none⟩) n cap] w fun e w' => e = .returned (.slice (some ⟨w.heap.size, 0, none⟩) n n) ∧ Strs w' w.heap.size ss ∧ Below w.heap.size w w' ∧ w.heap.size < w'.heap.size := by
  obtain ⟨i0, hi0, hz0, hz1, hz2⟩ := info_parts info9
  have hnil := fun w a n c => Lib.run_eql_slice_nil (P := Try.prog) w 22 9 a n c 0 0 Try.underlying22
  have H : Hid (Arg w b off n ss) := h
  clear h
  go_enter Try.func8, Try.ntmps8
  go_wp2_with (at_make; refine wpList_make_full _ rfl _ _ 22 rfl 0 9 i0 (.string ByteArray.empty) 1 Try.underlying22 hi0 hz0 hz1 _ _ _ _ n rfl rfl rfl rfl (by rw [hz2]; omega) (by unfold maxLen; omega) (Nat.zero_le _) ?_)
  intro w1 own1 grow1
  obtain ⟨g, hg⟩ : ∃ g, g = w.heap.size := ⟨_, rfl⟩
  rw [← hg] at own1 ⊢
  have HG : Hid (g = w.heap.size) := hg
  have hbl1 : Hid (∃ cur : Array Value, w1.heap[g]? = some (.cells cur 9 (0, 0)) ∧ cur.size = n) := by
    rcases own1.2 with ⟨h0, _⟩ | ⟨g', cap', cur, hv, _, hgg, _, _, h3, _⟩
    · cases h0
    · simp at hv
      obtain ⟨rfl, rfl⟩ := hv
      exact ⟨cur, hgg, by simpa using h3⟩
  have hb1 : Hid (Below g w w1) := by rw [hg]; exact (Below.refl _ _).grown grow1 (Nat.le_refl _) (fun k hk => by cases hk)
  clear own1 grow1 hg hnil hz0 hz1 hz2 hi0
  go_wp2
  go_loopw [4] (fun i wr => ∃ (k : Nat) (cur : Array Value), k ≤ n ∧ i = .int .i64 k ∧ wr.heap[g]? = some (.cells cur 9 (0, 0)) ∧ cur.size = n ∧ (∀ j, j < k → cur[j]? = some (.string (ss.getD j ByteArray.empty))) ∧ Below g w wr) (fun i _ => n - (intOf i).toNat)
  case atStart =>
    obtain ⟨cur, h1, h2⟩ := hbl1.out
    exact ⟨0, cur, Nat.zero_le _, rfl, h1, h2, fun j hj => by omega, hb1.out⟩
  case round =>
    obtain ⟨k, cur, hk, rfl, hgr, hcs, hcur, hbl⟩ := hrel
    by_cases hlt : k < n
    · have c1 : wr.cell? ⟨b, off + k, none⟩ = some (.string (ss.getD k ByteArray.empty)) := (hbl.cell (p := ⟨b, off + k, none⟩) (by have := H.out.2.1; rw [HG.out]; exact this)).trans (H.out.2.2 k hlt).1
      obtain ⟨s, hsn⟩ : ∃ s, s = ss.getD k ByteArray.empty := ⟨_, rfl⟩
      rw [← hsn] at c1
      have HS : Hid (s = ss.getD k ByteArray.empty) := hsn
      obtain ⟨v, c2⟩ : ∃ v, wr.cell? ⟨g, k, none⟩ = some v := ⟨_, by rw [cell_of_row wr g k cur 9 (0, 0) hgr]; exact Array.getElem?_eq_getElem (by omega)⟩
      have c3 : wr.frozen? ⟨g, k, none⟩ = false := by simp [World.frozen?, hgr]
      have R : Hid ((wr.setCell ⟨g, k, none⟩ (.string s)).heap[g]? = some (.cells (cur.setIfInBounds k (.string s)) 9 (0, 0)) ∧ (cur.setIfInBounds k (.string s)).size = n ∧ (∀ j, j < k + 1 → (cur.setIfInBounds k (.string s))[j]? = some (.string (ss.getD j ByteArray.empty))) ∧ Below g w (wr.setCell ⟨g, k, none⟩ (.string s))) := by
        refine ⟨heap_setCell_at _ _ _ _ _ _ _ hgr, by simpa using hcs, fun j hj => ?_, hbl.setCell (Nat.le_refl _) _⟩
        rw [Array.getElem?_setIfInBounds]
        by_cases he : k = j
        · subst he; rw [if_pos rfl, if_pos (by omega), hsn]
        · rw [if_neg he]; exact hcur j (by omega)
      clear hsn hgr hcs hcur hbl
      go_wp2
      go_roundw
      case rel => exact ⟨k + 1, _, by omega, by go_num, R.out.1, R.out.2.1, R.out.2.2.1, R.out.2.2.2⟩
      case measure => simp [intOf]; omega
    · have E : Hid (Strs wr w.heap.size ss ∧ Below w.heap.size w wr ∧ w.heap.size < wr.heap.size) := by
        have hl := H.out.1
        rw [← HG.out]
        refine ⟨fun j hj => ⟨?_, by simp [World.frozen?, hgr]⟩, hbl, (Array.getElem?_eq_some_iff.1 hgr).1⟩
        rw [cell_of_row wr g j cur 9 (0, 0) hgr]
        exact hcur j (by omega)
      clear hgr hcs hcur hbl
      go_wp2
      go_ret
      exact ⟨by rw [← HG.out]; rfl, E.out⟩
end Go.Proofs.Qxb6608668a
