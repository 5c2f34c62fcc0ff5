/- A row of strings in a block of its own: what reading, storing and slices.Delete make of it. No program. -/
import Derived.Laws.IdiomCopy
import Derived.Maps.AppendAt
import Derived.Below
import Derived.Lib.SliceRun
namespace Go.Proofs.Qxb6608668a
open Go.RowKit

/-- Block g holds, from its head on, the strings ss; those cells are not frozen. -/
def Strs (w : World) (g : Nat) (ss : List ByteArray) : Prop :=
  ∀ j, j < ss.length → w.cell? ⟨g, j, none⟩ = some (.string (ss.getD j ByteArray.empty)) ∧ w.frozen? ⟨g, j, none⟩ = false

theorem Strs.of_block {w w' : World} {g : Nat} {ss : List ByteArray} (h : Strs w g ss) (hb : w'.heap[g]? = w.heap[g]?) : Strs w' g ss := fun j hj =>
  ⟨(World.cell?_of_block (a := ⟨g, j, none⟩) hb).trans (h j hj).1, (World.frozen?_of_block (a := ⟨g, j, none⟩) hb).trans (h j hj).2⟩

theorem setCells_grown (b : Nat) : ∀ (vs : List Value) (o : Nat) (w : World), w.grownBy (w.setCells b o vs) (some b)
  | [], _, w => ⟨rfl, rfl, rfl, Nat.le_refl _, fun _ _ _ => rfl⟩
  | v :: r, o, w => by
    have h1 : w.grownBy (w.setCell ⟨b, o, none⟩ v) (some b) := ⟨rfl, rfl, rfl, by simp [World.setCell], fun k _ hne => Below.heap_setCell w _ v k (fun e => hne (by simp [e]))⟩
    exact h1.trans (setCells_grown b r (o + 1) _)

/-- The cells that slices.Delete moves one to the left. -/
def moved (ss : List ByteArray) (i : Nat) : List Value := (ss.drop (i + 1)).map Value.string

theorem moved_length (ss : List ByteArray) (i : Nat) : (moved ss i).length = ss.length - (i + 1) := by simp [moved]

theorem moved_get {ss : List ByteArray} {i j : Nat} (hj : j < ss.length - (i + 1)) : (moved ss i)[j]? = some (.string (ss.getD (i + 1 + j) ByteArray.empty)) := by
  simp [moved, List.getD, show i + 1 + j < ss.length by omega]

theorem moved_one (ss : List ByteArray) (i : Nat) : ∀ u ∈ moved ss i, u.oneCell' = true := by
  intro u hu
  obtain ⟨x, _, rfl⟩ := List.mem_map.1 hu
  rfl

theorem erase_get (ss : List ByteArray) (i j : Nat) : (ss.eraseIdx i).getD j ByteArray.empty = if j < i then ss.getD j ByteArray.empty else ss.getD (j + 1) ByteArray.empty := by
  simp only [List.getD, List.getElem?_eraseIdx]
  split <;> rfl

/-- Behind the append of the moved cells. -/
theorem Strs.moved {w : World} {g i : Nat} {ss : List ByteArray} (h : Strs w g ss) (hi : i < ss.length) :
    Strs (w.setCells g i (moved ss i)) g (ss.eraseIdx i) ∧ ((w.setCells g i (Qxb6608668a.moved ss i)).cell? ⟨g, ss.length - 1, none⟩).isSome = true ∧ (w.setCells g i (Qxb6608668a.moved ss i)).frozen? ⟨g, ss.length - 1, none⟩ = false := by
  have hl := moved_length ss i
  refine ⟨fun j hj => ?_, ?_, ?_⟩
  · have hj' : j < ss.length - 1 := by rw [List.length_eraseIdx, if_pos hi] at hj; exact hj
    refine ⟨?_, (World.frozen?_setCells g _ i w _).trans (h j (by omega)).2⟩
    rw [erase_get]
    by_cases hlt : j < i
    · rw [if_pos hlt, World.cell?_setCells_out g _ i w _ (fun _ _ => Or.inl hlt)]
      exact (h j (by omega)).1
    · rw [if_neg hlt]
      have := World.cell?_setCells_in g (Qxb6608668a.moved ss i) i w (fun t ht => by rw [hl] at ht; rw [(h (i + t) (by omega)).1]; rfl) (j - i) (by omega)
      rw [show i + (j - i) = j by omega] at this
      rw [this]
      have e := moved_get (ss := ss) (i := i) (j := j - i) (by omega)
      rw [List.getElem?_eq_getElem (by omega)] at e
      rw [e, show i + 1 + (j - i) = j + 1 by omega]
  · by_cases hlast : i = ss.length - 1
    · rw [World.cell?_setCells_out g _ i w _ (fun _ _ => Or.inr (by simp; omega)), (h (ss.length - 1) (by omega)).1]
      rfl
    · rw [World.cell?_setCells_out g _ i w _ (fun _ _ => Or.inr (by simp; omega)), (h (ss.length - 1) (by omega)).1]
      rfl
  · exact (World.frozen?_setCells g _ i w _).trans (h (ss.length - 1) (by omega)).2

/-- Behind the clear of what lies beyond. -/
theorem Strs.cleared {w : World} {g n : Nat} {ss : List ByteArray} {vs : List Value} (h : Strs w g ss) (hn : ss.length ≤ n) : Strs (w.setCells g n vs) g ss := fun j hj =>
  ⟨(World.cell?_setCells_out g _ n w _ (fun _ _ => Or.inl (by simp; omega))).trans (h j hj).1, (World.frozen?_setCells g _ n w _).trans (h j hj).2⟩
end Go.Proofs.Qxb6608668a
