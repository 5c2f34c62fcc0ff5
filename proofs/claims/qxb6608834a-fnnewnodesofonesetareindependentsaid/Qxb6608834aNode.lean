import Derived.Test.Qxb6608834aTaints
import Derived.Deep.RegionHeld3
import Derived.Deep.AppendLies
import Derived.StillTactics
import Derived.Laws.Pointers
namespace Go.Proofs.Qxb6608834a
open Go.RowKit

/-- A set in block p. -/
structure IsSet (w : World) (p : Nat) (r1 r2 : Option Nat) (tv : Value) : Prop where
  c2 : w.cell? ⟨p, 2, none⟩ = some (.map r1)
  c3 : w.cell? ⟨p, 3, none⟩ = some tv
  c4 : w.cell? ⟨p, 4, none⟩ = some (.map r2)

/-- A node in block q. -/
def IsNode (w : World) (q : Nat) (name : ByteArray) (r1 r2 : Option Nat) (tv : Value) : Prop :=
  w.heap[q]? = some (.cells #[.string name, .map r1, .map r2, tv, .bool false, .map none, .bool false] 47 (0, 0))

/-- The cells of n taints, one after the other. -/
def tcells (x y z : Nat → ByteArray) : Nat → List Value
  | 0 => []
  | n + 1 => tcells x y z n ++ [.string (x n), .string (y n), .string (z n)]

theorem tcells_len (x y z : Nat → ByteArray) (n : Nat) : (tcells x y z n).length = n * 3 := by
  induction n with
  | zero => rfl
  | succ n ih => simp [tcells, ih]; omega

theorem tcells_get (x y z : Nat → ByteArray) (n k : Nat) (hk : k < n) : (tcells x y z n)[k * 3]? = some (.string (x k)) ∧ (tcells x y z n)[k * 3 + 1]? = some (.string (y k)) ∧ (tcells x y z n)[k * 3 + 2]? = some (.string (z k)) := by
  induction n with
  | zero => omega
  | succ n ih =>
    have hl := tcells_len x y z n
    by_cases e : k = n
    · subst e
      refine ⟨?_, ?_, ?_⟩ <;> (rw [tcells, List.getElem?_append_right (by omega)]; simp [hl])
    · obtain ⟨h1, h2, h3⟩ := ih (by omega)
      refine ⟨?_, ?_, ?_⟩
      · rw [tcells, List.getElem?_append_left (by omega)]; exact h1
      · rw [tcells, List.getElem?_append_left (by omega)]; exact h2
      · rw [tcells, List.getElem?_append_left (by omega)]; exact h3

theorem tcells_one (x y z : Nat → ByteArray) (n : Nat) : ∀ u ∈ tcells x y z n, u.oneCell' = true := by
  induction n with
  | zero => intro u hu; cases hu
  | succ n ih =>
    intro u hu
    rw [tcells, List.mem_append] at hu
    rcases hu with hu | hu
    · exact ih u hu
    · simp at hu
      rcases hu with rfl | rfl | rfl <;> rfl

theorem Tn.cells {w : World} {g n : Nat} {x y z : Nat → ByteArray} (h : Tn w g n x y z) : ∀ j u, (tcells x y z n)[j]? = some u → w.cell? ((⟨g, 0, none⟩ : Addr).add j) = some u := by
  obtain ⟨cur, hg, hs, hc⟩ := h
  intro j u hu
  have hj : j < n * 3 := by
    have := (List.getElem?_eq_some_iff.1 hu).1
    rwa [tcells_len] at this
  rw [show (⟨g, 0, none⟩ : Addr).add j = ⟨g, j, none⟩ by unfold Addr.add; split <;> simp_all, cell_of_row w g j cur 56 (0, 0) hg, ← hu]
  obtain ⟨h1, h2, h3⟩ := hc (j / 3) (by omega)
  obtain ⟨k1, k2, k3⟩ := tcells_get x y z n (j / 3) (by omega)
  rcases (show j = j / 3 * 3 ∨ j = j / 3 * 3 + 1 ∨ j = j / 3 * 3 + 2 by omega) with e | e | e
  · rw [e, h1, k1]
  · rw [e, h2, k2]
  · rw [e, h3, k3]

/-- A row that owns the cells of n taints. -/
theorem Tn.of_own {w : World} {base g n cap : Nat} {x y z : Nat → ByteArray} (h : w.ownsRow base 56 3 (.slice (some ⟨g, 0, none⟩) n cap) n (tcells x y z n)) : Tn w g n x y z := by
  rcases h.2 with ⟨h0, _⟩ | ⟨g', cap', cur, hv, _, hg, h1, _, h3, h4⟩
  · cases h0
  · simp at hv
    obtain ⟨rfl, rfl⟩ := hv
    refine ⟨cur, hg, by rw [h3]; exact Nat.mul_le_mul_right _ h1, fun k hk => ?_⟩
    obtain ⟨k1, k2, k3⟩ := tcells_get x y z n k hk
    rw [← h4] at k1 k2 k3
    simp only [List.getElem?_take, Array.getElem?_toList] at k1 k2 k3
    rw [if_pos (by omega)] at k1 k2 k3
    exact ⟨k1, k2, k3⟩

/-- What NewNode leaves, of a set that has taints. -/
def NodeEnd (w : World) (name : ByteArray) (r1 r2 : Option Nat) (n : Nat) (x y z : Nat → ByteArray) (e : Ending) (w' : World) : Prop :=
  ∃ g cap q, e = .returned (.pointer (some ⟨q, 0, none⟩)) ∧ IsNode w' q name r1 r2 (.slice (some ⟨g, 0, none⟩) n cap) ∧ Tn w' g n x y z ∧ Below w.heap.size w w' ∧ w.heap.size ≤ g ∧ w.heap.size ≤ q

/-- What NewNode leaves, of a set that has none. -/
def NodeEnd0 (w : World) (name : ByteArray) (r1 r2 : Option Nat) (e : Ending) (w' : World) : Prop :=
  ∃ q, e = .returned (.pointer (some ⟨q, 0, none⟩)) ∧ IsNode w' q name r1 r2 (.slice none 0 0) ∧ Below w.heap.size w w' ∧ w.heap.size ≤ q

theorem run_append_zero {P : Program} (w : World) (t ty e : TypeId) (i : TypeInfo) (ht : P.underlying t = some (.slice e)) (hi : P.info? e = some i) (ao : Option Addr) (c : Nat) :
    (Builtin.append_ #[t, t] ty #[.slice none 0 0, .slice ao 0 c]).run P w = .ok (.slice none 0 0) w := by
  cases ao <;> simp [Builtin.append_, run_underlying ht, sizeOf, typeInfo, hi, Builtin.lenOf, Builtin.firstCells, loadCells, loadCellsFrom]

theorem step_append_zero {P : Program} {w : World} {ops : Array Oper} {o : Oper} {a : Act} {K : Act → World → Prop} {Q : Exit → Act → World → Prop} {E : Prop} (hgd : o.guard = none) (s x : Operand) (t : TypeId)
    (ho : o.op = .call { callee := .builtin .append, args := #[s, x], argTypes := #[t, t] }) (e : TypeId) (i : TypeInfo) (ht : P.underlying t = some (.slice e)) (hi : P.info? e = some i)
    (hs : a.eval s = .slice none 0 0) (ao : Option Addr) (c : Nat) (hx : a.eval x = .slice ao 0 c) (h : K (a.put o.dst (.slice none 0 0)) w) :
    if Region.wanted o (yielded ops a.tmps) = true then Oper.wp P o a w K Q else E := by
  have hw : Region.wanted o (yielded ops a.tmps) = true := by simp [Region.wanted, hgd]
  rw [if_pos hw]
  have hr := run_append_zero (P := P) w t o.type e i ht hi ao c
  unfold Oper.wp execOp
  simp only [ho, resolve, invoke, builtin, Sem.run_bind, Sem.run_pure, Result.andThen_ok, List.map_toArray, List.map_cons, List.map_nil, hs, hx, hr]
  exact h

set_option maxRecDepth 100000 in
set_option maxHeartbeats 1600000 in
theorem newNode_none (w : World) (p : Nat) (name : ByteArray) (r1 r2 : Option Nat) (ao : Option Addr) (ct : Nat) (h : IsSet w p r1 r2 (.slice ao 0 ct)) :
    Calls Try.prog 20 #[.pointer (some ⟨p, 0, none⟩), .string name] w fun e w' => NodeEnd0 w name r1 r2 e w' := by
  obtain ⟨i0, hi0, hz0, hz1, hz2⟩ := info_parts info56
  obtain ⟨h2, h3, h4⟩ := h
  have lp := World.block_lt_of_cell? w _ h2
  go_enter Try.func20, Try.ntmps20
  go_wp2_with fail
  go_region_held3 (fun w' => w'.cell? ⟨p, 2, none⟩ = some (.map r1) ∧ w'.cell? ⟨p, 3, none⟩ = some (.slice ao 0 ct) ∧ w'.cell? ⟨p, 4, none⟩ = some (.map r2))
    (first | go_keep | assumption)
    (refine step_append_zero (by rfl) _ _ 36 (by rfl) 56 i0 Try.underlying36 hi0 (by rfl) ao ct (by rfl) ?_)
  go_wp2
  go_ret
  exact ⟨_, rfl, heap_alloc_new w.drew _, ((Below.refl _ _).drew).alloc (Nat.le_refl _) _, Nat.le_refl _⟩

set_option maxRecDepth 100000 in
set_option maxHeartbeats 1600000 in
theorem newNode_some (w : World) (p : Nat) (name : ByteArray) (r1 r2 : Option Nat) (gt n ct : Nat) (x y z : Nat → ByteArray) (h : IsSet w p r1 r2 (.slice (some ⟨gt, 0, none⟩) n ct)) (hT : Tn w gt n x y z) (hn : 0 < n) (hs : n ≤ 1048576) :
    Calls Try.prog 20 #[.pointer (some ⟨p, 0, none⟩), .string name] w fun e w' => NodeEnd w name r1 r2 n x y z e w' := by
  obtain ⟨i0, hi0, hz0, hz1, hz2⟩ := info_parts info56
  obtain ⟨h2, h3, h4⟩ := h
  have hcells := hT.cells
  have lp := World.block_lt_of_cell? w _ h2
  go_enter Try.func20, Try.ntmps20
  go_wp2_with fail
  go_region_held3 (fun w' => w'.cell? ⟨p, 2, none⟩ = some (.map r1) ∧ w'.cell? ⟨p, 3, none⟩ = some (.slice (some ⟨gt, 0, none⟩) n ct) ∧ w'.cell? ⟨p, 4, none⟩ = some (.map r2))
    (first
      | go_keep
      | (go_split_ands
         refine ⟨?_, ?_, ?_⟩ <;> (rw [hgrow.cell_far _ (by simp; omega) (by simp [Value.ownBlock])]; assumption)))
    ((refine step_append_lies _ (by rfl) _ _ _ (by rfl) 0 56 i0 _ 3 48 Try.underlying36 hi0 hz0 hz1 hz2 rfl (by omega) (.slice none 0 0) 0 [] (by rfl) (World.ownsRow_nil _ _ _ _) ⟨gt, 0, none⟩ n ct (tcells x y z n) (by rfl) (tcells_len x y z n) hcells (tcells_one x y z n) hn (by unfold maxLen; omega) (by omega) (Nat.zero_le _) (w.heap.size) (by simp) ?_; intro g cap w1 hown1 hgrow hat hlt))
  have hT1 : Tn w1 g n x y z := Tn.of_own (base := 0) (cap := cap) (by simpa using hown1)
  have hB1 : Below w.heap.size w w1 := (Below.refl _ _).drew.grown hgrow (Nat.le_refl _) (fun k hk => by cases hk)
  have hg : w.heap.size ≤ g := by
    rcases hat with hat | hat
    · cases hat
    · omega
  have hz := hB1.size
  have HE : Hid (NodeEnd w name r1 r2 n x y z (.returned (.pointer (some ⟨w1.heap.size, 0, none⟩))) (w1.alloc (.cells #[.string name, .map r1, .map r2, .slice (some ⟨g, 0, none⟩) n cap, .bool false, .map none, .bool false] 47))) := by
    refine ⟨g, cap, w1.heap.size, rfl, heap_alloc_new w1 _, ?_, hB1.alloc hz _, hg, hz⟩
    obtain ⟨cur, e1, e2⟩ := hT1
    exact ⟨cur, (Below.heap_alloc _ _ _ hlt).trans e1, e2⟩
  clear hown1 hgrow hat hT1 hB1
  go_wp2
  go_ret
  exact HE.out
end Go.Proofs.Qxb6608834a
