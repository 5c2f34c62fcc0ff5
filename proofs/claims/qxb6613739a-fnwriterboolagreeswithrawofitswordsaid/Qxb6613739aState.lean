import Derived.Test.Qxb6613739aWalkE
namespace Go.Proofs.Qxb6613739a
open Go.RowKit

def wordB (b : Bool) : ByteArray := if b then ⟨#[116, 114, 117, 101]⟩ else ⟨#[102, 97, 108, 115, 101]⟩
def wordZ (b : Bool) : List Int := if b then [116, 114, 117, 101] else [102, 97, 108, 115, 101]
theorem wordCells_eq (b : Bool) : wordCells b = (wordZ b).map (Value.int .u8) := by cases b <;> rfl
theorem byteCells_word (b : Bool) : byteCells (wordB b) = wordCells b := by cases b <;> rfl
theorem wordB_le (b : Bool) : (wordB b).size ≤ 5 := by cases b <;> decide
theorem wordZ_len (b : Bool) : (wordZ b).length = (wordB b).size := by cases b <;> rfl

theorem word_any (b : Bool) (w : World) : Calls Try.prog 10 #[.bool b] w fun e w' => e = .returned (.string (wordB b)) ∧ w' = w := by
  cases b with
  | true => exact word_t w
  | false => exact word_f w

/-- An append onto a row, the bytes of the word. -/
theorem src_word (b : Bool) (w : World) : Src Try.prog 1 9 (.string (wordB b)) (wordB b).size (wordCells b) w := by
  have := Src.ofString w Try.underlying9 (wordB b)
  rwa [byteCells_word] at this

/-- The word as a new []byte. -/
theorem src_conv (b : Bool) (w' : World) (cap : Nat) (fr : Nat × Nat) (g n : Nat) (h : w'.heap[g]? = some (.cells (bytesRow (wordB b) cap) 5 fr)) (hn : n = (wordB b).size) (c : Nat) :
    Src Try.prog 1 27 (.slice (some ⟨g, 0, none⟩) n c) n (wordCells b) w' := by
  subst hn
  refine Src.ofSlice w' Try.underlying27 ⟨g, 0, none⟩ (wordB b).size c (wordCells b) (by rw [← byteCells_word, byteCells_length]; simp) ?_ ?_
  · intro j u hu
    rw [show (⟨g, 0, none⟩ : Addr).add j = ⟨g, j, none⟩ by unfold Addr.add; split <;> simp_all, cell_of_row w' g j _ 5 fr h]
    rw [← byteCells_word] at hu
    have hj : j < (wordB b).data.size := by
      have := (List.getElem?_eq_some_iff.1 hu).1
      rwa [byteCells_length] at this
    rw [bytesRow_at _ _ _ hj]
    have h2 : (byteCells (wordB b))[j]? = some (.int .u8 ((wordB b).data[j].toNat : Int)) := by simp only [byteCells, List.getElem?_map, Array.getElem?_toList, Array.getElem?_eq_getElem hj, Option.map_some]
    rw [h2] at hu
    exact hu
  · intro u hu
    rw [wordCells_eq] at hu
    exact ints_oneCell _ _ u hu

/-- The bytes that came in, in a world in which what was there has not turned. -/
theorem src_given {W w' : World} {a : Option Addr} {len cap : Nat} {zs : List Int}
    (h : (a = none ∧ len = 0 ∧ cap = 0 ∧ zs = []) ∨ ∃ x, a = some x ∧ len ≤ cap ∧ cap ≤ maxLen ∧ zs.length = cap ∧ (∀ i, i < zs.length → W.cell? (x.add i) = some (.int .u8 (zs.getD i 0))) ∧ ∀ n ∈ zs, (Lit.int .u8 n).wf = true)
    (hb : ∀ k, k < W.heap.size → w'.heap[k]? = W.heap[k]?) : Src Try.prog 1 27 (.slice a len cap) len ((zs.take len).map (Value.int .u8)) w' := by
  rcases h with ⟨rfl, rfl, rfl, rfl⟩ | ⟨x, rfl, hl, hm, hz, hc, _⟩
  · exact Src.ofNil w' Try.underlying27 0
  · refine Src.ofSlice w' Try.underlying27 x len cap _ (by simp; omega) ?_ (ints_oneCell _ _)
    intro j u hu
    have hj : j < len := by
      have := (List.getElem?_eq_some_iff.1 hu).1
      simp at this; omega
    have hcell := hc j (by omega)
    have hlt := World.block_lt_of_cell? W (x.add j) hcell
    rw [World.cell?_of_block (hb _ hlt), hcell, ← hu]
    simp [hj, List.getD, show j < zs.length by omega]

/-- Two Writers, apart from each other and from what was there. -/
structure St (N : Nat) (W w : World) (p1 g1 c1 : Nat) (xs1 : List Value) (m1 : Bool) (p2 g2 c2 : Nat) (xs2 : List Value) (m2 : Bool) : Prop where
  fst : Wr w p1 g1 c1 xs1 m1
  snd : Wr w p2 g2 c2 xs2 m2
  below : Below N W w
  low : N ≤ w.heap.size
  n1 : N ≤ p1
  n2 : N ≤ g1
  n3 : N ≤ p2
  n4 : N ≤ g2
  d1 : p1 ≠ p2
  d2 : p1 ≠ g2
  d3 : g1 ≠ p2
  d4 : g1 ≠ g2

section
variable {N : Nat} {W w w' : World} {p1 g1 c1 : Nat} {xs1 : List Value} {m1 : Bool} {p2 g2 c2 : Nat} {xs2 : List Value} {m2 : Bool}

theorem St.swap (h : St N W w p1 g1 c1 xs1 m1 p2 g2 c2 xs2 m2) : St N W w p2 g2 c2 xs2 m2 p1 g1 c1 xs1 m1 :=
  ⟨h.snd, h.fst, h.below, h.low, h.n3, h.n4, h.n1, h.n2, h.d1.symm, h.d3.symm, h.d2.symm, h.d4.symm⟩

theorem St.step1 (h : St N W w p1 g1 c1 xs1 m1 p2 g2 c2 xs2 m2) {g1' c1' : Nat} {ys : List Value} {m : Bool} (hw : Wr w' p1 g1' c1' ys m) (ht : Two p1 g1 w w') (hg : g1' = g1 ∨ w.heap.size ≤ g1') :
    St N W w' p1 g1' c1' ys m p2 g2 c2 xs2 m2 := by
  obtain ⟨a, b, bel, low, n1, n2, n3, n4, d1, d2, d3, d4⟩ := h
  have hp2 := b.lt
  have hg2 := b.2.lt
  refine ⟨hw, b.of_blocks (ht.block p2 hp2 d1.symm d3.symm) (ht.block g2 hg2 d2.symm d4.symm), ?_, ?_, n1, ?_, n3, n4, d1, d2, ?_, ?_⟩
  · exact bel.trans ⟨ht.os, ht.tape, ht.output, ht.size, fun k hk => ht.block k (by omega) (by omega) (by omega)⟩
  · have := ht.size; omega
  · omega
  · omega
  · omega

theorem St.step2 (h : St N W w p1 g1 c1 xs1 m1 p2 g2 c2 xs2 m2) {g2' c2' : Nat} {ys : List Value} {m : Bool} (hw : Wr w' p2 g2' c2' ys m) (ht : Two p2 g2 w w') (hg : g2' = g2 ∨ w.heap.size ≤ g2') :
    St N W w' p1 g1 c1 xs1 m1 p2 g2' c2' ys m := (h.swap.step1 hw ht hg).swap

theorem St.grown (h : St N W w p1 g1 c1 xs1 m1 p2 g2 c2 xs2 m2) {row : Option Nat} (hg : w.grownBy w' row) (hr : ∀ k, row = some k → N ≤ k ∧ k ≠ p1 ∧ k ≠ g1 ∧ k ≠ p2 ∧ k ≠ g2) :
    St N W w' p1 g1 c1 xs1 m1 p2 g2 c2 xs2 m2 := by
  obtain ⟨a, b, bel, low, n1, n2, n3, n4, d1, d2, d3, d4⟩ := h
  have l1 := a.lt
  have l2 := a.2.lt
  have l3 := b.lt
  have l4 := b.2.lt
  refine ⟨a.of_blocks (hg.block p1 l1 ?_) (hg.block g1 l2 ?_), b.of_blocks (hg.block p2 l3 ?_) (hg.block g2 l4 ?_), bel.grown hg low (fun k hk => (hr k hk).1), ?_, n1, n2, n3, n4, d1, d2, d3, d4⟩
  · intro e; exact (hr p1 e.symm).2.1 rfl
  · intro e; exact (hr g1 e.symm).2.2.1 rfl
  · intro e; exact (hr p2 e.symm).2.2.2.1 rfl
  · intro e; exact (hr g2 e.symm).2.2.2.2 rfl
  · have := hg.size; omega

theorem St.app (h : St N W w p1 g1 c1 xs1 m1 p2 g2 c2 xs2 m2) {g g' : Nat} (hd : N ≤ g ∧ g ≠ p1 ∧ g ≠ g1 ∧ g ≠ p2 ∧ g ≠ g2) (hg : w.grownBy w' (some g)) (hat : g' = g ∨ g' = w.heap.size) :
    St N W w' p1 g1 c1 xs1 m1 p2 g2 c2 xs2 m2 ∧ (N ≤ g' ∧ g' ≠ p1 ∧ g' ≠ g1 ∧ g' ≠ p2 ∧ g' ≠ g2) := by
  refine ⟨h.grown hg (fun k hk => by cases hk; exact hd), ?_⟩
  have l1 := h.fst.lt
  have l2 := h.fst.2.lt
  have l3 := h.snd.lt
  have l4 := h.snd.2.lt
  have l5 := h.low
  rcases hat with rfl | rfl
  · exact hd
  · omega

theorem St.new (h : St N W w p1 g1 c1 xs1 m1 p2 g2 c2 xs2 m2) : N ≤ w.heap.size ∧ w.heap.size ≠ p1 ∧ w.heap.size ≠ g1 ∧ w.heap.size ≠ p2 ∧ w.heap.size ≠ g2 := by
  have l1 := h.fst.lt
  have l2 := h.fst.2.lt
  have l3 := h.snd.lt
  have l4 := h.snd.2.lt
  have l5 := h.low
  omega

theorem St.drewN (h : St N W w p1 g1 c1 xs1 m1 p2 g2 c2 xs2 m2) (n : Nat) : St N W (w.drewN n) p1 g1 c1 xs1 m1 p2 g2 c2 xs2 m2 :=
  h.grown (row := none) ⟨rfl, rfl, rfl, Nat.le_refl _, fun _ _ _ => rfl⟩ (fun k hk => by cases hk)

theorem St.old (h : St N W w p1 g1 c1 xs1 m1 p2 g2 c2 xs2 m2) (ht : Two p1 g1 w w') : ∀ k, k < N → w'.heap[k]? = W.heap[k]? := by
  intro k hk
  obtain ⟨a, b, bel, low, n1, n2, n3, n4, d1, d2, d3, d4⟩ := h
  exact (ht.block k (by omega) (by omega) (by omega)).trans (bel.block k hk)
end

/-- Two fresh Writers. -/
theorem St.start (w : World) : St w.heap.size w ((((w.alloc (.cells #[] 5)).alloc (.cells #[.slice (some ⟨w.heap.size, 0, none⟩) 0 0, .bool false, .nilIface] 50)).alloc (.cells #[] 5)).alloc (.cells #[.slice (some ⟨w.heap.size + 2, 0, none⟩) 0 0, .bool false, .nilIface] 50))
    (w.heap.size + 1) w.heap.size 0 [] false (w.heap.size + 3) (w.heap.size + 2) 0 [] false := by
  have z1 : (w.alloc (.cells #[] 5)).heap.size = w.heap.size + 1 := by simp
  generalize hB1 : Obj.cells #[.slice (some ⟨w.heap.size, 0, none⟩) 0 0, .bool false, .nilIface] 50 (0, 0) = B1
  generalize hB2 : Obj.cells #[.slice (some ⟨w.heap.size + 2, 0, none⟩) 0 0, .bool false, .nilIface] 50 (0, 0) = B2
  generalize hw1 : w.alloc (.cells #[] 5) = w1 at *
  have z2 : (w1.alloc B1).heap.size = w.heap.size + 2 := by simp [z1]
  generalize hw2 : w1.alloc B1 = w2 at *
  have z3 : (w2.alloc (.cells #[] 5)).heap.size = w.heap.size + 3 := by simp [z2]
  generalize hw3 : w2.alloc (.cells #[] 5) = w3 at *
  have e0 : (w3.alloc B2).heap[w.heap.size]? = some (.cells #[] 5 (0, 0)) := by
    rw [Below.heap_alloc _ _ _ (by omega), ← hw3, Below.heap_alloc _ _ _ (by omega), ← hw2, Below.heap_alloc _ _ _ (by omega), ← hw1]
    exact heap_alloc_new w _
  have e1 : (w3.alloc B2).heap[w.heap.size + 1]? = some B1 := by
    rw [Below.heap_alloc _ _ _ (by omega), ← hw3, Below.heap_alloc _ _ _ (by omega), ← hw2, ← z1]
    exact heap_alloc_new w1 _
  have e2 : (w3.alloc B2).heap[w.heap.size + 2]? = some (.cells #[] 5 (0, 0)) := by
    rw [Below.heap_alloc _ _ _ (by omega), ← hw3, ← z2]
    exact heap_alloc_new w2 _
  have e3 : (w3.alloc B2).heap[w.heap.size + 3]? = some B2 := by
    rw [← z3]
    exact heap_alloc_new w3 _
  refine ⟨⟨by rw [e1, ← hB1]; rfl, ⟨#[], e0, by simp, by simp [maxLen], rfl, rfl⟩⟩, ⟨by rw [e3, ← hB2]; rfl, ⟨#[], e2, by simp, by simp [maxLen], rfl, rfl⟩⟩, ?_, by simp [z3]; omega, by omega, by omega, by omega, by omega, by omega, by omega, by omega, by omega⟩
  have b1 : Below w.heap.size w w1 := by rw [← hw1]; exact (Below.refl _ _).alloc (Nat.le_refl _) _
  have b2 : Below w.heap.size w w2 := by rw [← hw2]; exact b1.alloc (by omega) _
  have b3 : Below w.heap.size w w3 := by rw [← hw3]; exact b2.alloc (by omega) _
  exact b3.alloc (by omega) _

theorem equal_two (w : World) (g1 c1 n1 g2 c2 n2 : Nat) (zs : List Int) (h1 : n1 = zs.length) (h2 : n2 = zs.length) (hm : zs.length ≤ 4194304) (k1 : Has w 5 g1 c1 (zs.map (Value.int .u8))) (k2 : Has w 5 g2 c2 (zs.map (Value.int .u8))) :
    Calls Try.prog 11 #[.slice (some ⟨g1, 0, none⟩) n1 c1, .slice (some ⟨g2, 0, none⟩) n2 c2] w fun e w' => e = .returned (.bool true) ∧ ∃ nq, w' = w.drewN nq := by
  subst h1; subst h2
  exact equal_any w g1 c1 g2 c2 _ zs rfl hm k1 k2
end Go.Proofs.Qxb6613739a
