import Derived.Test.Qxb6608668aDel
namespace Go.Proofs.Qxb6608668a
open Go.RowKit

/-- A carrier in block p, its names ss in block g. -/
structure Pl (w : World) (p g cap : Nat) (ss : List ByteArray) : Prop where
  box : w.heap[p]? = some (.cells #[.slice (some ⟨g, 0, none⟩) ss.length cap, .slice none 0 0, .slice none 0 0] 36 (0, 0))
  row : Strs w g ss
  ne : p ≠ g
  lt : g < w.heap.size
  room : ss.length ≤ cap
  small : cap ≤ 9223372036854775807

/-- All old blocks but p and g are as they were. -/
structure Two (p g : Nat) (w w' : World) : Prop where
  os : w'.os = w.os
  tape : w'.tape = w.tape
  output : w'.output = w.output
  size : w.heap.size ≤ w'.heap.size
  block : ∀ k, k < w.heap.size → k ≠ p → k ≠ g → w'.heap[k]? = w.heap[k]?

theorem Two.refl (p g : Nat) (w : World) : Two p g w w := ⟨rfl, rfl, rfl, Nat.le_refl _, fun _ _ _ _ => rfl⟩
theorem Two.trans {p g : Nat} {w w' w'' : World} (h : Two p g w w') (h' : Two p g w' w'') : Two p g w w'' :=
  ⟨h'.os.trans h.os, h'.tape.trans h.tape, h'.output.trans h.output, Nat.le_trans h.size h'.size, fun k hk hp hkg => (h'.block k (Nat.lt_of_lt_of_le hk h.size) hp hkg).trans (h.block k hk hp hkg)⟩

theorem Pl.kept {w w' : World} {p g cap : Nat} {ss : List ByteArray} (h : Pl w p g cap ss) (hp : w'.heap[p]? = w.heap[p]?) (hg : w'.heap[g]? = w.heap[g]?) : Pl w' p g cap ss :=
  ⟨hp.trans h.box, h.row.of_block hg, h.ne, by
    have h1 := h.lt
    have : w'.heap[g]? = some (w.heap[g]) := by rw [hg]; exact Array.getElem?_eq_getElem h1
    exact (Array.getElem?_eq_some_iff.1 this).1, h.room, h.small⟩

theorem Pl.plt {w : World} {p g cap : Nat} {ss : List ByteArray} (h : Pl w p g cap ss) : p < w.heap.size := (Array.getElem?_eq_some_iff.1 h.box).1

theorem heap_setCell_at (w : World) (p j : Nat) (v : Value) (cs : Array Value) (t : TypeId) (fr : Nat × Nat) (h : w.heap[p]? = some (.cells cs t fr)) :
    (w.setCell ⟨p, j, none⟩ v).heap[p]? = some (.cells (cs.setIfInBounds j v) t fr) := by
  simp [World.setCell, Array.getElem?_modify, h]

set_option maxHeartbeats 400000 in
theorem remove_any (w : World) (p g cap i n : Nat) (ss : List ByteArray) (h : Pl w p g cap ss) (hn : ss.length = n) (hi : i < n) (hs : n ≤ 1048576) :
    Calls Try.prog 16 #[.pointer (some ⟨p, 0, none⟩), .int .i64 i] w fun e w' => e = .returned (.tuple #[]) ∧ Pl w' p g cap (ss.eraseIdx i) ∧ Two p g w w' := by
  have c0 : w.cell? ⟨p, 0, none⟩ = some (.slice (some ⟨g, 0, none⟩) n cap) := by simp [World.cell?, h.box, hn]
  have hr := h.room
  go_enter Try.func16, Try.ntmps16
  go_wp2_with fail
  refine (delete_any g cap n i ss w h.row hn hi (by omega) h.small).mono ?_
  rintro e w1 ⟨rfl, S1, G1⟩
  have hp1 : w1.heap[p]? = w.heap[p]? := G1.block p h.plt (by simpa using h.ne)
  have k0 : w1.cell? ⟨p, 0, none⟩ = some (.slice (some ⟨g, 0, none⟩) n cap) := (World.cell?_of_block (a := ⟨p, 0, none⟩) hp1).trans c0
  have k1 : w1.frozen? ⟨p, 0, none⟩ = false := by rw [World.frozen?_of_block (a := ⟨p, 0, none⟩) hp1]; simp [World.frozen?, h.box]
  have P2 : Hid (Pl (w1.setCell ⟨p, 0, none⟩ (.slice (some ⟨g, 0, none⟩) (n - 1) cap)) p g cap (ss.eraseIdx i)) := by
    refine ⟨?_, S1.of_block (Below.heap_setCell _ _ _ _ h.ne.symm), h.ne, ?_, ?_, h.small⟩
    · rw [heap_setCell_at _ _ _ _ _ _ _ (hp1.trans h.box), List.length_eraseIdx, if_pos (by omega), hn]
      rfl
    · have := h.lt; have := G1.size; simp [World.setCell]; omega
    · rw [List.length_eraseIdx, if_pos (by omega)]; omega
  have T2 : Hid (Two p g w (w1.setCell ⟨p, 0, none⟩ (.slice (some ⟨g, 0, none⟩) (n - 1) cap))) := by
    refine ⟨G1.os, G1.tape, G1.output, ?_, fun k hk hkp hkg => ?_⟩
    · have := G1.size; simp [World.setCell]; omega
    · rw [Below.heap_setCell _ _ _ _ hkp]; exact G1.block k hk (by simpa using hkg)
  clear c0 hp1 S1 G1 h hn
  go_wp2
  go_end0
  exact ⟨rfl, P2.out, T2.out⟩

theorem zzremove_any (w : World) (p g cap i n : Nat) (ss : List ByteArray) (h : Pl w p g cap ss) (hn : ss.length = n) (hi : i < n) (hs : n ≤ 1048576) :
    Calls Try.prog 9 #[.pointer (some ⟨p, 0, none⟩), .int .i64 i] w fun e w' => e = .returned (.tuple #[]) ∧ Pl w' p g cap (ss.eraseIdx i) ∧ Two p g w w' := by
  go_enter Try.func9, Try.ntmps9
  go_wp2_with fail
  refine (remove_any w p g cap i n ss h hn hi hs).mono ?_
  rintro e w1 ⟨rfl, h1, h2⟩
  clear h hn
  go_wp2
  go_end0
  exact ⟨rfl, h1, h2⟩

theorem peers_any (w : World) (p : Nat) (ao : Option Addr) (n c : Nat) (h : w.cell? ⟨p, 0, none⟩ = some (.slice ao n c)) :
    Calls Try.prog 10 #[.pointer (some ⟨p, 0, none⟩)] w fun e w' => e = .returned (.slice ao n c) ∧ w' = w := by
  go_enter Try.func10, Try.ntmps10
  go_wp2
  go_ret
  exact ⟨rfl, rfl⟩

theorem with_any (w : World) (ao : Option Addr) (n c : Nat) :
    Calls Try.prog 7 #[.slice ao n c] w fun e w' => e = .returned (.pointer (some ⟨w.heap.size, 0, none⟩)) ∧ w' = w.alloc (.cells #[.slice ao n c, .slice none 0 0, .slice none 0 0] 36) := by
  go_enter Try.func7, Try.ntmps7
  go_wp2
  go_ret
  exact ⟨rfl, rfl⟩
end Go.Proofs.Qxb6608668a
