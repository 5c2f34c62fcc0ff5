import Derived.Test.Qxb6608834aArgs
import Derived.Maps.Own
import Derived.Maps.OwnSet
import Derived.Maps.StringElems
import Derived.RegionTactic
import Derived.Lib.SliceRun
namespace Go.Proofs.Qxb6608834a
open Go.RowKit Go.Maps

theorem law : Keyed Try.prog 9 := string_keyed Try.underlying9

/-- The labels' map after k pairs. -/
def labD (ks vs : Nat → ByteArray) : Nat → DataW Unit
  | 0 => .map []
  | k + 1 => (labD ks vs k).put (.string (ks k).data.toList) (.lit (.string (vs k).data.toList))

/-- The amounts' map after k entries. -/
def amtD (nm : Nat → ByteArray) (am : Nat → Int) : Nat → DataW Unit
  | 0 => .map []
  | k + 1 => (amtD nm am k).put (.string (nm k).data.toList) (.lit (.int .i64 (am k)))

theorem make38 (w : World) (n : Int) : (Instr.makeMap 38 (some (.int .i64 n))).run Try.prog w = .ok (.map (some w.heap.size)) (w.alloc (.map #[] 0)) := by
  simp [Instr.makeMap, run_underlying Try.underlying38, asInt, newObj]
  rfl

theorem make40 (w : World) (n : Int) : (Instr.makeMap 40 (some (.int .i64 n))).run Try.prog w = .ok (.map (some w.heap.size)) (w.alloc (.map #[] 0)) := by
  simp [Instr.makeMap, run_underlying Try.underlying40, asInt, newObj]
  rfl

/-- What the making of a map leaves. -/
def MapEnd (w : World) (a : Option Addr) (e n : Nat) (D : DataW Unit) (en : Ending) (w' : World) : Prop :=
  ∃ r : Option Nat, en = .returned (.map r) ∧ r.isNone = a.isNone ∧ (∀ bm, r = some bm → w.heap.size ≤ bm ∧ w'.ownsMap Try.prog 9 (plainElem Try.prog e) bm n D) ∧ Below w.heap.size w w'

set_option maxHeartbeats 1000000 in
theorem labels_any (w : World) (a : Option Addr) (n c b off : Nat) (ks vs : Nat → ByteArray) (h : ArgL w a n c b off ks vs) (hn : n ≤ 1048576) :
    Calls Try.prog 27 #[.slice a n c] w fun e w' => MapEnd w a 9 n (labD ks vs n) e w' := by
  have H : Hid (ArgL w a n c b off ks vs) := h
  clear h
  have hnil := fun w a n c => Lib.run_eql_slice_nil (P := Try.prog) w 59 92 a n c 0 0 Try.underlying59
  have hmk := make38
  cases hc : a.isNone with
  | true =>
    go_enter Try.func27, Try.ntmps27
    go_wp2
    go_ret
    exact ⟨none, rfl, hc.symm, fun bm h => (by cases h), Below.refl _ _⟩
  | false =>
    go_enter Try.func27, Try.ntmps27
    go_wp2
    obtain ⟨g, hg⟩ : ∃ g, g = w.heap.size := ⟨_, rfl⟩
    rw [← hg]
    have HG : Hid (g = w.heap.size) := hg
    have O0 : Hid ((w.alloc (.map #[] 0)).ownsMap Try.prog 9 (plainElem Try.prog 9) g 0 (labD ks vs 0)) := by rw [hg]; exact World.ownsMap_made w _ _ _
    have B0 : Hid (Below g w (w.alloc (.map #[] 0))) := by rw [hg]; exact (Below.refl _ _).alloc (Nat.le_refl _) _
    clear hg hnil hmk
    go_loopw [4] (fun i wr => ∃ k : Nat, k ≤ n ∧ i = .int .i64 k ∧ Hid (wr.ownsMap Try.prog 9 (plainElem Try.prog 9) g k (labD ks vs k)) ∧ Hid (Below g w wr)) (fun i _ => n - (intOf i).toNat)
    case atStart => exact ⟨0, Nat.zero_le _, rfl, O0, B0⟩
    case round =>
      obtain ⟨k, hk, rfl, OW, BW⟩ := hrel
      by_cases hlt : k < n
      · have i1 := H.out.1 k hlt
        obtain ⟨hbl, c1, c3, c2, c4⟩ := H.out.2 k hlt
        have hbl' : b < g := by rw [HG.out]; exact hbl
        have d1 := (BW.out.cell (p := ⟨b, off + k * 2, none⟩) hbl').trans c1
        have d3 := (BW.out.cell (p := ⟨b, off + k * 2 + 1, none⟩) hbl').trans c3
        obtain ⟨w1, hrun, own1, grow1⟩ := (show wr.drew.ownsMap Try.prog 9 (plainElem Try.prog 9) g k (labD ks vs k) from OW.out).update law Try.underlying38 (by unfold maxLen; omega) (WideMaps.keyOf_string_mk (s := ks k) Try.underlying9 (by unfold maxLen; omega)) (plainElem_string (H := Unit) (s := vs k) Try.underlying9 (by unfold maxLen; omega))
        have O1 : Hid (w1.ownsMap Try.prog 9 (plainElem Try.prog 9) g (k + 1) (labD ks vs (k + 1))) := own1
        have B1 : Hid (Below g w w1) := BW.out.drew.grown grow1 (by have := BW.out.size; rw [HG.out] at *; exact this) (fun j hj => by cases hj; exact Nat.le_refl _)
        clear own1 grow1 OW BW c1 c3 c2 c4 hbl hbl'
        go_wp2
        go_region
        go_wp2
        go_roundw
        case rel => exact ⟨k + 1, by omega, by go_num, O1, B1⟩
        case measure => simp [intOf]; omega
      · have HE : Hid (MapEnd w a 9 n (labD ks vs n) (.returned (.map (some g))) wr) := by
          have e : k = n := by omega
          subst e
          refine ⟨some g, rfl, by rw [hc]; rfl, fun bm h => ?_, by rw [← HG.out]; exact BW.out⟩
          cases h
          exact ⟨by rw [HG.out]; exact Nat.le_refl _, OW.out⟩
        clear OW BW
        go_wp2
        go_ret
        exact HE.out
set_option maxHeartbeats 1000000 in
theorem amounts_any (w : World) (a : Option Addr) (n c b off : Nat) (nm : Nat → ByteArray) (am : Nat → Int) (h : ArgA w a n c b off nm am) (hn : n ≤ 1048576) :
    Calls Try.prog 28 #[.slice a n c] w fun e w' => MapEnd w a 2 n (amtD nm am n) e w' := by
  have H : Hid (ArgA w a n c b off nm am) := h
  clear h
  have hnil := fun w a n c => Lib.run_eql_slice_nil (P := Try.prog) w 60 94 a n c 0 0 Try.underlying60
  have hmk := make40
  cases hc : a.isNone with
  | true =>
    go_enter Try.func28, Try.ntmps28
    go_wp2
    go_ret
    exact ⟨none, rfl, hc.symm, fun bm h => (by cases h), Below.refl _ _⟩
  | false =>
    go_enter Try.func28, Try.ntmps28
    go_wp2
    obtain ⟨g, hg⟩ : ∃ g, g = w.heap.size := ⟨_, rfl⟩
    rw [← hg]
    have HG : Hid (g = w.heap.size) := hg
    have O0 : Hid ((w.alloc (.map #[] 0)).ownsMap Try.prog 9 (plainElem Try.prog 2) g 0 (amtD nm am 0)) := by rw [hg]; exact World.ownsMap_made w _ _ _
    have B0 : Hid (Below g w (w.alloc (.map #[] 0))) := by rw [hg]; exact (Below.refl _ _).alloc (Nat.le_refl _) _
    clear hg hnil hmk
    go_loopw [4] (fun i wr => ∃ k : Nat, k ≤ n ∧ i = .int .i64 k ∧ Hid (wr.ownsMap Try.prog 9 (plainElem Try.prog 2) g k (amtD nm am k)) ∧ Hid (Below g w wr)) (fun i _ => n - (intOf i).toNat)
    case atStart => exact ⟨0, Nat.zero_le _, rfl, O0, B0⟩
    case round =>
      obtain ⟨k, hk, rfl, OW, BW⟩ := hrel
      by_cases hlt : k < n
      · have i1 := H.out.1 k hlt
        obtain ⟨hbl, c1, c3, c2, c4⟩ := H.out.2 k hlt
        have hbl' : b < g := by rw [HG.out]; exact hbl
        have d1 := (BW.out.cell (p := ⟨b, off + k * 2, none⟩) hbl').trans c1
        have d3 := (BW.out.cell (p := ⟨b, off + k * 2 + 1, none⟩) hbl').trans c3
        obtain ⟨w1, hrun, own1, grow1⟩ := (show wr.drew.ownsMap Try.prog 9 (plainElem Try.prog 2) g k (amtD nm am k) from OW.out).update law Try.underlying40 (by unfold maxLen; omega) (WideMaps.keyOf_string_mk (s := nm k) Try.underlying9 (by unfold maxLen; omega)) (plainElem_int (H := Unit) (a := am k) Try.underlying2 c4)
        have O1 : Hid (w1.ownsMap Try.prog 9 (plainElem Try.prog 2) g (k + 1) (amtD nm am (k + 1))) := own1
        have B1 : Hid (Below g w w1) := BW.out.drew.grown grow1 (by have := BW.out.size; rw [HG.out] at *; exact this) (fun j hj => by cases hj; exact Nat.le_refl _)
        clear own1 grow1 OW BW c1 c3 c2 c4 hbl hbl'
        go_wp2
        go_region
        go_wp2
        go_roundw
        case rel => exact ⟨k + 1, by omega, by go_num, O1, B1⟩
        case measure => simp [intOf]; omega
      · have HE : Hid (MapEnd w a 2 n (amtD nm am n) (.returned (.map (some g))) wr) := by
          have e : k = n := by omega
          subst e
          refine ⟨some g, rfl, by rw [hc]; rfl, fun bm h => ?_, by rw [← HG.out]; exact BW.out⟩
          cases h
          exact ⟨by rw [HG.out]; exact Nat.le_refl _, OW.out⟩
        clear OW BW
        go_wp2
        go_ret
        exact HE.out
end Go.Proofs.Qxb6608834a
