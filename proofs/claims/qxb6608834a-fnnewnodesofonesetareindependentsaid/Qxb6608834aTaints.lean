import Derived.Test.Qxb6608834aArgs
import Derived.Lib.SliceRun
namespace Go.Proofs.Qxb6608834a
open Go.RowKit

theorem info56 : (Try.prog.info? 56).map (fun i => (i.zero, i.size, i.bytes)) = some (some (.agg #[.string ByteArray.empty, .string ByteArray.empty, .string ByteArray.empty]), 3, 48) := by kernel_rfl

set_option maxHeartbeats 400000 in
theorem taint_any (x y z : ByteArray) (w : World) :
    Calls Try.prog 22 #[.agg #[.string x, .string y, .string z]] w fun e w' => e = .returned (.agg #[.string x, .string y, .string z]) ∧ Below w.heap.size w w' := by
  go_enter Try.func22, Try.ntmps22
  go_wp2
  exact bodyPost_ret (v := .agg #[.string x, .string y, .string z]) (by simp [results, Try.results22, go_sem]) rfl ⟨rfl, ((Below.refl _ _).alloc (Nat.le_refl _) _).alloc (by simp) _⟩

/-- Block g holds n taints from its head on. -/
def Tn (w : World) (g n : Nat) (x y z : Nat → ByteArray) : Prop :=
  ∃ cur : Array Value, w.heap[g]? = some (.cells cur 56 (0, 0)) ∧ n * 3 ≤ cur.size ∧ ∀ k, k < n → cur[k * 3]? = some (.string (x k)) ∧ cur[k * 3 + 1]? = some (.string (y k)) ∧ cur[k * 3 + 2]? = some (.string (z k))

theorem heap_setCell_at (w : World) (p j : Nat) (v : Value) (cs : Array Value) (t : TypeId) (fr : Nat × Nat) (h : w.heap[p]? = some (.cells cs t fr)) :
    (w.setCell ⟨p, j, none⟩ v).heap[p]? = some (.cells (cs.setIfInBounds j v) t fr) := by
  simp [World.setCell, Array.getElem?_modify, h]

theorem put3 {w : World} {g n k : Nat} {cur : Array Value} {x y z : Nat → ByteArray} {s t u : ByteArray} (hg : w.heap[g]? = some (.cells cur 56 (0, 0))) (hcs : cur.size = n * 3)
    (hcur : ∀ j, j < k → cur[j * 3]? = some (.string (x j)) ∧ cur[j * 3 + 1]? = some (.string (y j)) ∧ cur[j * 3 + 2]? = some (.string (z j))) (hk : k < n) (hs : s = x k) (ht : t = y k) (hu : u = z k) :
    ∃ cur' : Array Value, (((w.setCell ⟨g, k * 3, none⟩ (.string s)).setCell ⟨g, k * 3 + 1, none⟩ (.string t)).setCell ⟨g, k * 3 + 2, none⟩ (.string u)).heap[g]? = some (.cells cur' 56 (0, 0)) ∧ cur'.size = n * 3 ∧
      ∀ j, j < k + 1 → cur'[j * 3]? = some (.string (x j)) ∧ cur'[j * 3 + 1]? = some (.string (y j)) ∧ cur'[j * 3 + 2]? = some (.string (z j)) := by
  refine ⟨_, heap_setCell_at _ _ _ _ _ _ _ (heap_setCell_at _ _ _ _ _ _ _ (heap_setCell_at _ _ _ _ _ _ _ hg)), by simpa using hcs, fun j hj => ?_⟩
  simp only [Array.getElem?_setIfInBounds, Array.size_setIfInBounds]
  by_cases e : j = k
  · subst e
    refine ⟨?_, ?_, ?_⟩
    · rw [if_neg (by omega), if_neg (by omega), if_pos rfl, if_pos (by omega), hs]
    · rw [if_neg (by omega), if_pos rfl, if_pos (by omega), ht]
    · rw [if_pos rfl, if_pos (by omega), hu]
  · obtain ⟨h1, h2, h3⟩ := hcur j (by omega)
    refine ⟨?_, ?_, ?_⟩
    · rw [if_neg (by omega), if_neg (by omega), if_neg (by omega)]; exact h1
    · rw [if_neg (by omega), if_neg (by omega), if_neg (by omega)]; exact h2
    · rw [if_neg (by omega), if_neg (by omega), if_neg (by omega)]; exact h3

/-- What the copying of the taints leaves. -/
def TaintsEnd (w : World) (a : Option Addr) (n : Nat) (x y z : Nat → ByteArray) (e : Ending) (w' : World) : Prop :=
  Below w.heap.size w w' ∧ ((a = none ∧ e = .returned (.slice none 0 0)) ∨ (a.isNone = false ∧ e = .returned (.slice (some ⟨w.heap.size, 0, none⟩) n n) ∧ Tn w' w.heap.size n x y z))

set_option maxHeartbeats 1600000 in
theorem taints_any (w : World) (a : Option Addr) (n c b off : Nat) (x y z : Nat → ByteArray) (h : ArgT w a n c b off x y z) (hn : n ≤ 1048576) :
    Calls Try.prog 19 #[.slice a n c] w fun e w' => TaintsEnd w a n x y z e w' := by
  obtain ⟨i0, hi0, hz0, hz1, hz2⟩ := info_parts info56
  have H : Hid (ArgT w a n c b off x y z) := h
  clear h
  have hnil := fun w a n c => Lib.run_eql_slice_nil (P := Try.prog) w 32 50 a n c 0 0 Try.underlying32
  cases hc : a.isNone with
  | true =>
    go_enter Try.func19, Try.ntmps19
    go_wp2
    go_ret
    exact ⟨Below.refl _ _, .inl ⟨by simpa using hc, rfl⟩⟩
  | false =>
    go_enter Try.func19, Try.ntmps19
    go_wp2_with (at_make; refine wpList_make_full _ rfl _ _ 36 rfl 0 56 i0 _ 3 Try.underlying36 hi0 hz0 hz1 _ _ _ _ n rfl rfl rfl rfl (by rw [hz2]; omega) (by unfold maxLen; omega) (Nat.zero_le _) ?_)
    intro w1 own1 grow1
    obtain ⟨g, hg⟩ : ∃ g, g = w.heap.size := ⟨_, rfl⟩
    rw [← hg] at own1 ⊢
    have HG : Hid (g = w.heap.size) := hg
    have hbl1 : Hid (∃ cur : Array Value, w1.heap[g]? = some (.cells cur 56 (0, 0)) ∧ cur.size = n * 3) := by
      rcases own1.2 with ⟨h0, _⟩ | ⟨g', cap', cur, hv, _, hgg, _, _, h3, _⟩
      · cases h0
      · simp at hv
        obtain ⟨rfl, rfl⟩ := hv
        exact ⟨cur, hgg, h3⟩
    have hb1 : Hid (Below g w w1) := by rw [hg]; exact (Below.refl _ _).grown grow1 (Nat.le_refl _) (fun k hk => by cases hk)
    clear own1 grow1 hg hnil hz0 hz1 hz2 hi0
    go_wp2
    go_loopw [4] (fun i wr => ∃ (k : Nat) (cur : Array Value), k ≤ n ∧ i = .int .i64 k ∧ Hid (wr.heap[g]? = some (.cells cur 56 (0, 0)) ∧ cur.size = n * 3 ∧ (∀ j, j < k → cur[j * 3]? = some (.string (x j)) ∧ cur[j * 3 + 1]? = some (.string (y j)) ∧ cur[j * 3 + 2]? = some (.string (z j))) ∧ Below g w wr)) (fun i _ => n - (intOf i).toNat)
    case atStart =>
      obtain ⟨cur, h1, h2⟩ := hbl1.out
      exact ⟨0, cur, Nat.zero_le _, rfl, h1, h2, fun j hj => by omega, hb1.out⟩
    case round =>
      obtain ⟨k, cur, hk, rfl, HR⟩ := hrel
      by_cases hlt : k < n
      · have i1 := H.out.1 k hlt
        obtain ⟨hbl, c1, c2, c3, _⟩ := H.out.2 k hlt
        have hbl' : b < g := by rw [HG.out]; exact hbl
        have d1 := (HR.out.2.2.2.cell (p := ⟨b, off + k * 3, none⟩) hbl').trans c1
        have d2 := (HR.out.2.2.2.cell (p := ⟨b, off + k * 3 + 1, none⟩) hbl').trans c2
        have d3 := (HR.out.2.2.2.cell (p := ⟨b, off + k * 3 + 2, none⟩) hbl').trans c3
        obtain ⟨s, hs⟩ : ∃ s, s = x k := ⟨_, rfl⟩
        rw [← hs] at d1
        have ES : Hid (s = x k) := hs
        obtain ⟨t, ht⟩ : ∃ s, s = y k := ⟨_, rfl⟩
        rw [← ht] at d2
        have ET : Hid (t = y k) := ht
        obtain ⟨u, hu⟩ : ∃ s, s = z k := ⟨_, rfl⟩
        rw [← hu] at d3
        have EU : Hid (u = z k) := hu
        clear hs ht hu c1 c2 c3 hbl hbl'
        go_wp2_with fail
        refine (taint_any s t u wr).mono ?_
        rintro e w2 ⟨rfl, B2⟩
        obtain ⟨hgr, hcs, hcur, hblw⟩ := HR.out
        have hglt : g < wr.heap.size := (Array.getElem?_eq_some_iff.1 hgr).1
        have hg2 : w2.heap[g]? = some (.cells cur 56 (0, 0)) := (B2.block g hglt).trans hgr
        have kk : k * 3 + 2 < cur.size := by omega
        obtain ⟨v0, e0⟩ : ∃ v, w2.cell? ⟨g, k * 3, none⟩ = some v := ⟨_, by rw [cell_of_row w2 g _ cur 56 (0, 0) hg2]; exact Array.getElem?_eq_getElem (by omega)⟩
        obtain ⟨v1, e1⟩ : ∃ v, w2.cell? ⟨g, k * 3 + 1, none⟩ = some v := ⟨_, by rw [cell_of_row w2 g _ cur 56 (0, 0) hg2]; exact Array.getElem?_eq_getElem (by omega)⟩
        obtain ⟨v2, e2⟩ : ∃ v, w2.cell? ⟨g, k * 3 + 2, none⟩ = some v := ⟨_, by rw [cell_of_row w2 g _ cur 56 (0, 0) hg2]; exact Array.getElem?_eq_getElem (by omega)⟩
        have f0 : w2.frozen? ⟨g, k * 3, none⟩ = false := by simp [World.frozen?, hg2]
        have f1 : w2.frozen? ⟨g, k * 3 + 1, none⟩ = false := by simp [World.frozen?, hg2]
        have f2 : w2.frozen? ⟨g, k * 3 + 2, none⟩ = false := by simp [World.frozen?, hg2]
        have P3 : Hid _ := put3 hg2 hcs hcur hlt ES.out ET.out EU.out
        have P4 : Hid (Below g w (((w2.setCell ⟨g, k * 3, none⟩ (.string s)).setCell ⟨g, k * 3 + 1, none⟩ (.string t)).setCell ⟨g, k * 3 + 2, none⟩ (.string u))) := (((hblw.trans (B2.mono (by omega))).setCell (Nat.le_refl _) _).setCell (Nat.le_refl _) _).setCell (Nat.le_refl _) _
        clear hgr hcs hcur hblw hg2 kk
        go_wp2
        go_roundw
        case rel =>
          obtain ⟨cur', p1, p2, p3⟩ := P3.out
          exact ⟨k + 1, cur', by omega, by go_num, p1, p2, p3, P4.out⟩
        case measure => simp [intOf]; omega
      · have HE : Hid (TaintsEnd w a n x y z (.returned (.slice (some ⟨g, 0, none⟩) n n)) wr) := by
          have e : k = n := by omega
          subst e
          obtain ⟨hgr, hcs, hcur, hblw⟩ := HR.out
          refine ⟨by rw [← HG.out]; exact hblw, .inr ⟨hc, by rw [← HG.out], ?_⟩⟩
          rw [← HG.out]
          exact ⟨cur, hgr, by omega, hcur⟩
        clear HR
        go_wp2
        go_ret
        exact HE.out
end Go.Proofs.Qxb6608834a
