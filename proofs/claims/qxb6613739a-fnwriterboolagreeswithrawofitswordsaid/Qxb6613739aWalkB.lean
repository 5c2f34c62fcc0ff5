import Derived.Test.Qxb6613739aWalkA
namespace Go.Proofs.Qxb6613739a
open Go.RowKit

/-- A Writer lies in block p; its text, the cells xs, lies in block g. -/
def Wr (w : World) (p g cap : Nat) (xs : List Value) (more : Bool) : Prop :=
  w.heap[p]? = some (.cells #[.slice (some ⟨g, 0, none⟩) xs.length cap, .bool more, .nilIface] 50 (0, 0)) ∧ Has w 5 g cap xs

/-- All old blocks but p and g are as they were. -/
structure Two (p g : Nat) (w w' : World) : Prop where
  os : w'.os = w.os
  tape : w'.tape = w.tape
  output : w'.output = w.output
  size : w.heap.size ≤ w'.heap.size
  block : ∀ k, k < w.heap.size → k ≠ p → k ≠ g → w'.heap[k]? = w.heap[k]?

theorem Two.refl (p g : Nat) (w : World) : Two p g w w := ⟨rfl, rfl, rfl, Nat.le_refl _, fun _ _ _ _ => rfl⟩

theorem Two.trans {p g g' : Nat} {w w' w'' : World} (h : Two p g w w') (h' : Two p g' w' w'') (hg : g' = g ∨ w.heap.size ≤ g') : Two p g w w'' :=
  ⟨h'.os.trans h.os, h'.tape.trans h.tape, h'.output.trans h.output, Nat.le_trans h.size h'.size, fun k hk hp hkg =>
    (h'.block k (Nat.lt_of_lt_of_le hk h.size) hp (by rcases hg with rfl | hg <;> omega)).trans (h.block k hk hp hkg)⟩

theorem Two.alloc (p g : Nat) (w : World) (o : Obj) : Two p g w (w.alloc o) := ⟨rfl, rfl, rfl, by simp, fun k hk _ _ => Below.heap_alloc w o k hk⟩

theorem Two.setCell (p g : Nat) (w : World) (j : Nat) (v : Value) : Two p g w (w.setCell ⟨p, j, none⟩ v) := ⟨rfl, rfl, rfl, by simp [World.setCell], fun k _ hp _ => Below.heap_setCell w _ v k hp⟩

theorem Two.grown {p g : Nat} {w w' : World} (h : w.grownBy w' (some g)) : Two p g w w' := ⟨h.os, h.tape, h.output, h.size, fun k hk _ hg => h.block k hk (by simpa using hg)⟩

theorem Wr.ne {w : World} {p g cap : Nat} {xs : List Value} {more : Bool} (h : Wr w p g cap xs more) : p ≠ g := by
  rintro rfl
  obtain ⟨h1, cur, h2, _⟩ := h
  rw [h1] at h2
  simp at h2

theorem Wr.lt {w : World} {p g cap : Nat} {xs : List Value} {more : Bool} (h : Wr w p g cap xs more) : p < w.heap.size := (Array.getElem?_eq_some_iff.1 h.1).1

theorem Wr.of_blocks {w w' : World} {p g cap : Nat} {xs : List Value} {more : Bool} (h : Wr w p g cap xs more) (hp : w'.heap[p]? = w.heap[p]?) (hg : w'.heap[g]? = w.heap[g]?) : Wr w' p g cap xs more :=
  ⟨hp.trans h.1, h.2.of_block hg⟩

theorem Wr.cell0 {w : World} {p g cap : Nat} {xs : List Value} {more : Bool} (h : Wr w p g cap xs more) : w.cell? ⟨p, 0, none⟩ = some (.slice (some ⟨g, 0, none⟩) xs.length cap) := by simp [World.cell?, h.1]
theorem Wr.cell1 {w : World} {p g cap : Nat} {xs : List Value} {more : Bool} (h : Wr w p g cap xs more) : w.cell? ⟨p, 1, none⟩ = some (.bool more) := by simp [World.cell?, h.1]
theorem Wr.cell2 {w : World} {p g cap : Nat} {xs : List Value} {more : Bool} (h : Wr w p g cap xs more) : w.cell? ⟨p, 2, none⟩ = some .nilIface := by simp [World.cell?, h.1]
theorem Wr.free {w : World} {p g cap : Nat} {xs : List Value} {more : Bool} (h : Wr w p g cap xs more) (j : Nat) : w.frozen? ⟨p, j, none⟩ = false := by simp [World.frozen?, h.1]

theorem heap_setCell_at (w : World) (p j : Nat) (v : Value) (cs : Array Value) (t : TypeId) (fr : Nat × Nat) (h : w.heap[p]? = some (.cells cs t fr)) :
    (w.setCell ⟨p, j, none⟩ v).heap[p]? = some (.cells (cs.setIfInBounds j v) t fr) := by
  simp [World.setCell, Array.getElem?_modify, h]

/-- Behind the store of the new text. -/
theorem Wr.store0 {w w1 : World} {p g cap g' cap' n : Nat} {xs ys : List Value} {more : Bool} (h : Wr w p g cap xs more) (hb : w1.heap[p]? = w.heap[p]?) (hy : Has w1 5 g' cap' ys) (hn : ys.length = n) :
    Wr (w1.setCell ⟨p, 0, none⟩ (.slice (some ⟨g', 0, none⟩) n cap')) p g' cap' ys more := by
  subst hn
  have hp : w1.heap[p]? = some (.cells #[.slice (some ⟨g, 0, none⟩) xs.length cap, .bool more, .nilIface] 50 (0, 0)) := hb.trans h.1
  have hne : g' ≠ p := by
    rintro rfl
    obtain ⟨cur, h2, _⟩ := hy
    rw [hp] at h2
    simp at h2
  refine ⟨?_, hy.of_block (Below.heap_setCell _ _ _ _ hne)⟩
  rw [heap_setCell_at _ _ _ _ _ _ _ hp]
  rfl

theorem Wr.store1 {w : World} {p g cap : Nat} {xs : List Value} {more : Bool} (h : Wr w p g cap xs more) (b : Bool) : Wr (w.setCell ⟨p, 1, none⟩ (.bool b)) p g cap xs b := by
  refine ⟨?_, h.2.of_block (Below.heap_setCell _ _ _ _ h.ne.symm)⟩
  rw [heap_setCell_at _ _ _ _ _ _ _ h.1]
  rfl

/-- comma, nothing came before. -/
theorem comma_f (w : World) (p g cap : Nat) (xs : List Value) (h : Wr w p g cap xs false) :
    Calls Try.prog 26 #[.pointer (some ⟨p, 0, none⟩)] w fun e w' => e = .returned (.tuple #[]) ∧ w' = w := by
  have h1 := h.cell1
  go_enter Try.func26, Try.ntmps26
  go_wp2
  go_end0
  exact ⟨rfl, rfl⟩

set_option maxHeartbeats 400000 in
theorem comma_t (w : World) (p g cap : Nat) (xs : List Value) (h : Wr w p g cap xs true) (hx : xs.length ≤ 4194304) :
    Calls Try.prog 26 #[.pointer (some ⟨p, 0, none⟩)] w fun e w' => e = .returned (.tuple #[]) ∧ ∃ g' cap', Wr w' p g' cap' (xs ++ [.int .u8 44]) true ∧ Two p g w w' ∧ (g' = g ∨ w.heap.size ≤ g') := by
  obtain ⟨i0, hi, hz0, hz1, hz2⟩ := info_parts info5
  have c0 := h.cell0
  have c1 := h.cell1
  have hf := h.free
  go_enter Try.func26, Try.ntmps26
  go_wp2_with (at_builtin; refine wpList_append_has _ rfl _ _ 27 27 rfl 5 i0 (.int .u8 0) 1 Try.underlying27 hi hz0 hz1 hz2 rfl g cap xs.length xs rfl rfl (h.2.of_block (Below.heap_alloc _ _ _ h.2.lt)) _ rfl 1 [.int .u8 44] (Src.ofSlice _ Try.underlying27 ⟨w.heap.size, 0, none⟩ 1 1 [.int .u8 44] rfl (cell_one_new _ _ _) (by simp [Value.oneCell'])) (by unfold maxLen; omega) (by omega) ?_)
  intro g' cap' w1 hown hgrow hat
  have hp1 : w1.heap[p]? = w.heap[p]? := (hgrow.block p (by have := h.lt; simp; omega) (by have := h.ne; simpa using this)).trans (Below.heap_alloc _ _ _ h.lt)
  have W1 := h.store0 (n := xs.length + 1) hp1 hown (by simp)
  have k0 : w1.cell? ⟨p, 0, none⟩ = some (.slice (some ⟨g, 0, none⟩) xs.length cap) := (World.cell?_of_block (a := ⟨p, 0, none⟩) hp1).trans c0
  have k1 : w1.frozen? ⟨p, 0, none⟩ = false := (World.frozen?_of_block (a := ⟨p, 0, none⟩) hp1).trans (hf 0)
  clear c0 c1 hf
  go_wp2
  go_end0
  refine ⟨rfl, g', cap', W1, ((Two.alloc p g w _).trans (Two.grown hgrow) (.inl rfl)).trans (Two.setCell p g _ _ _) (.inl rfl), ?_⟩
  rcases hat with hat | hat
  · exact .inl hat
  · right; rw [hat]; simp
end Go.Proofs.Qxb6613739a
