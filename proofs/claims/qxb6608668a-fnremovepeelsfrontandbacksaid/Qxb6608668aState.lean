import Derived.Test.Qxb6608668aBytes
namespace Go.Proofs.Qxb6608668a
open Go.RowKit

/-- One carrier of the call's own. -/
structure St1 (W w : World) (p g c : Nat) (ss : List ByteArray) : Prop where
  pl : Pl w p g c ss
  below : Below W.heap.size W w
  n1 : W.heap.size ≤ p
  n2 : W.heap.size ≤ g

/-- Two carriers, apart. -/
structure St2 (W w : World) (p1 g1 c1 : Nat) (ss1 : List ByteArray) (p2 g2 c2 : Nat) (ss2 : List ByteArray) : Prop where
  fst : St1 W w p1 g1 c1 ss1
  snd : St1 W w p2 g2 c2 ss2
  d1 : p1 ≠ p2
  d2 : p1 ≠ g2
  d3 : g1 ≠ p2
  d4 : g1 ≠ g2

section
variable {W w w' : World} {p g c : Nat} {ss ss' : List ByteArray} {p1 g1 c1 : Nat} {ss1 : List ByteArray} {p2 g2 c2 : Nat} {ss2 : List ByteArray}

theorem Two.below (h : Two p g w w') (hb : Below W.heap.size W w) (hp : W.heap.size ≤ p) (hg : W.heap.size ≤ g) : Below W.heap.size W w' :=
  hb.trans ⟨h.os, h.tape, h.output, h.size, fun k hk => h.block k (by have := hb.size; omega) (by omega) (by omega)⟩

theorem St1.step (h : St1 W w p g c ss) (h1 : Pl w' p g c ss') (h2 : Two p g w w') : St1 W w' p g c ss' := ⟨h1, h2.below h.below h.n1 h.n2, h.n1, h.n2⟩

theorem St2.step1 (h : St2 W w p1 g1 c1 ss1 p2 g2 c2 ss2) (h1 : Pl w' p1 g1 c1 ss') (h2 : Two p1 g1 w w') : St2 W w' p1 g1 c1 ss' p2 g2 c2 ss2 := by
  obtain ⟨a, b, d1, d2, d3, d4⟩ := h
  exact ⟨a.step h1 h2, ⟨b.pl.kept (h2.block p2 b.pl.plt d1.symm d3.symm) (h2.block g2 b.pl.lt d2.symm d4.symm), h2.below b.below a.n1 a.n2, b.n1, b.n2⟩, d1, d2, d3, d4⟩

theorem St2.swap (h : St2 W w p1 g1 c1 ss1 p2 g2 c2 ss2) : St2 W w p2 g2 c2 ss2 p1 g1 c1 ss1 := ⟨h.snd, h.fst, h.d1.symm, h.d3.symm, h.d2.symm, h.d4.symm⟩

theorem St2.step2 (h : St2 W w p1 g1 c1 ss1 p2 g2 c2 ss2) (h1 : Pl w' p2 g2 c2 ss') (h2 : Two p2 g2 w w') : St2 W w' p1 g1 c1 ss1 p2 g2 c2 ss' := (h.swap.step1 h1 h2).swap

/-- A fresh carrier. -/
theorem Pl.made {n : Nat} (h : Strs w g ss) (hg : g < w.heap.size) (hn : ss.length = n) (hs : n ≤ 1048576) :
    Pl (w.alloc (.cells #[.slice (some ⟨g, 0, none⟩) n n, .slice none 0 0, .slice none 0 0] 36)) w.heap.size g n ss := by
  subst hn
  exact ⟨heap_alloc_new w _, h.of_block (Below.heap_alloc _ _ _ hg), by omega, by simp; omega, Nat.le_refl _, by omega⟩

theorem St1.made {n : Nat} (h : Strs w' W.heap.size ss) (hb : Below W.heap.size W w') (hl : W.heap.size < w'.heap.size) (hn : ss.length = n) (hs : n ≤ 1048576) :
    St1 W (w'.alloc (.cells #[.slice (some ⟨W.heap.size, 0, none⟩) n n, .slice none 0 0, .slice none 0 0] 36)) w'.heap.size W.heap.size n ss :=
  ⟨Pl.made h hl hn hs, hb.alloc (by omega) _, by omega, Nat.le_refl _⟩

theorem St2.made {n : Nat} (h0 : St1 W w p1 g1 c1 ss1) (h : Strs w' w.heap.size ss) (hb : Below w.heap.size w w') (hl : w.heap.size < w'.heap.size) (hn : ss.length = n) (hs : n ≤ 1048576) :
    St2 W (w'.alloc (.cells #[.slice (some ⟨w.heap.size, 0, none⟩) n n, .slice none 0 0, .slice none 0 0] 36)) p1 g1 c1 ss1 w'.heap.size w.heap.size n ss := by
  have hz := h0.below.size
  have l1 := h0.pl.plt
  have l2 := h0.pl.lt
  have hB : Below W.heap.size W (w'.alloc (.cells #[.slice (some ⟨w.heap.size, 0, none⟩) n n, .slice none 0 0, .slice none 0 0] 36)) := (h0.below.trans (hb.mono hz)).alloc (by omega) _
  refine ⟨⟨h0.pl.kept ?_ ?_, hB, h0.n1, h0.n2⟩, ⟨Pl.made h hl hn hs, hB, by omega, by omega⟩, by omega, by omega, by omega, by omega⟩
  · rw [Below.heap_alloc _ _ _ (by omega)]; exact hb.block p1 l1
  · rw [Below.heap_alloc _ _ _ (by omega)]; exact hb.block g1 l2
end

theorem Pl.cell0 {w : World} {p g c n : Nat} {ss : List ByteArray} (h : Pl w p g c ss) (hn : ss.length = n) : w.cell? ⟨p, 0, none⟩ = some (.slice (some ⟨g, 0, none⟩) n c) := by
  simp [World.cell?, h.box, hn]

/-- What is left when j and then i < j are taken out; when i and then j - 1 are. -/
def want (ss : List ByteArray) (i j k : Nat) : ByteArray := if k < i then ss.getD k ByteArray.empty else if k < j - 1 then ss.getD (k + 1) ByteArray.empty else ss.getD (k + 2) ByteArray.empty

theorem want_a (ss : List ByteArray) (i j k : Nat) (h : i < j) : ((ss.eraseIdx j).eraseIdx i).getD k ByteArray.empty = want ss i j k := by
  rw [erase_get, erase_get, erase_get, want]
  by_cases h1 : k < i
  · rw [if_pos h1, if_pos h1, if_pos (by omega)]
  · rw [if_neg h1, if_neg h1]
    by_cases h2 : k < j - 1
    · rw [if_pos h2, if_pos (by omega)]
    · rw [if_neg h2, if_neg (by omega)]

theorem want_b (ss : List ByteArray) (i j k : Nat) (h : i < j) : ((ss.eraseIdx i).eraseIdx (j - 1)).getD k ByteArray.empty = want ss i j k := by
  rw [erase_get, erase_get, erase_get, want]
  by_cases h1 : k < i
  · rw [if_pos h1, if_pos (by omega), if_pos h1]
  · rw [if_neg h1]
    by_cases h2 : k < j - 1
    · rw [if_pos h2, if_pos h2, if_neg h1]
    · rw [if_neg h2, if_neg h2, if_neg (by omega), if_neg h1]

theorem len_a (ss : List ByteArray) (i j n : Nat) (hn : ss.length = n) (h : i < j) (hj : j < n) : (ss.eraseIdx j).length = n - 1 ∧ ((ss.eraseIdx j).eraseIdx i).length = n - 2 := by
  have h1 : (ss.eraseIdx j).length = n - 1 := by rw [List.length_eraseIdx, if_pos (by omega), hn]
  exact ⟨h1, by rw [List.length_eraseIdx, if_pos (by omega), h1]; omega⟩

theorem len_b (ss : List ByteArray) (i j n : Nat) (hn : ss.length = n) (h : i < j) (hj : j < n) : (ss.eraseIdx i).length = n - 1 ∧ ((ss.eraseIdx i).eraseIdx (j - 1)).length = n - 2 := by
  have h1 : (ss.eraseIdx i).length = n - 1 := by rw [List.length_eraseIdx, if_pos (by omega), hn]
  exact ⟨h1, by rw [List.length_eraseIdx, if_pos (by omega), h1]; omega⟩
end Go.Proofs.Qxb6608668a
