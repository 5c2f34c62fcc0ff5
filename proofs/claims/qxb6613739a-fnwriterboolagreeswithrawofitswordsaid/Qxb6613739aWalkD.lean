import Derived.Test.Qxb6613739aWalkC
namespace Go.Proofs.Qxb6613739a
open Go.RowKit

def wordCells (b : Bool) : List Value := if b then [.int .u8 116, .int .u8 114, .int .u8 117, .int .u8 101] else [.int .u8 102, .int .u8 97, .int .u8 108, .int .u8 115, .int .u8 101]
theorem word_le (b : Bool) : (wordCells b).length ≤ 5 := by cases b <;> simp [wordCells]

theorem src_t (w : World) : Src Try.prog 1 9 (.string ⟨#[116, 114, 117, 101]⟩) 4 [.int .u8 116, .int .u8 114, .int .u8 117, .int .u8 101] w := Src.ofString w Try.underlying9 ⟨#[116, 114, 117, 101]⟩
theorem src_f (w : World) : Src Try.prog 1 9 (.string ⟨#[102, 97, 108, 115, 101]⟩) 5 [.int .u8 102, .int .u8 97, .int .u8 108, .int .u8 115, .int .u8 101] w := Src.ofString w Try.underlying9 ⟨#[102, 97, 108, 115, 101]⟩

set_option maxHeartbeats 400000 in
theorem app_any (w : World) (g cap : Nat) (xs : List Value) (b : Bool) (h : Has w 5 g cap xs) (hx : xs.length ≤ 4194304) :
    Calls Try.prog 29 #[.slice (some ⟨g, 0, none⟩) xs.length cap, .bool b] w fun e w' => ∃ g' cap', e = .returned (.slice (some ⟨g', 0, none⟩) (xs.length + (wordCells b).length) cap') ∧
      Has w' 5 g' cap' (xs ++ wordCells b) ∧ w.grownBy w' (some g) ∧ (g' = g ∨ g' = w.heap.size) := by
  obtain ⟨i0, hi, hz0, hz1, hz2⟩ := info_parts info5
  cases b with
  | true =>
    go_enter Try.func29, Try.ntmps29
    go_wp2_with (at_builtin; refine wpList_append_has _ rfl _ _ 27 9 rfl 5 i0 (.int .u8 0) 1 Try.underlying27 hi hz0 hz1 hz2 rfl g cap xs.length xs rfl rfl h _ rfl 4 _ (src_t w) (by unfold maxLen; omega) (by omega) ?_)
    intro g' cap' w' h1 h2 h3
    go_wp2
    go_ret
    exact ⟨g', cap', rfl, h1, h2, h3⟩
  | false =>
    go_enter Try.func29, Try.ntmps29
    go_wp2_with (at_builtin; refine wpList_append_has _ rfl _ _ 27 9 rfl 5 i0 (.int .u8 0) 1 Try.underlying27 hi hz0 hz1 hz2 rfl g cap xs.length xs rfl rfl h _ rfl 5 _ (src_f w) (by unfold maxLen; omega) (by omega) ?_)
    intro g' cap' w' h1 h2 h3
    go_wp2
    go_ret
    exact ⟨g', cap', rfl, h1, h2, h3⟩

set_option maxHeartbeats 400000 in
theorem appendBool_any (w : World) (g cap : Nat) (xs : List Value) (b : Bool) (h : Has w 5 g cap xs) (hx : xs.length ≤ 4194304) :
    Calls Try.prog 27 #[.slice (some ⟨g, 0, none⟩) xs.length cap, .bool b] w fun e w' => ∃ g' cap' n, e = .returned (.slice (some ⟨g', 0, none⟩) n cap') ∧ Hid (n = xs.length + (wordCells b).length) ∧
      Has w' 5 g' cap' (xs ++ wordCells b) ∧ w.grownBy w' (some g) ∧ (g' = g ∨ g' = w.heap.size) := by
  go_enter Try.func27, Try.ntmps27
  go_wp2_with fail
  refine (app_any w g cap xs b h hx).mono ?_
  rintro e w' ⟨g', cap', rfl, h1, h2, h3⟩
  obtain ⟨n, hn⟩ : ∃ n, n = xs.length + (wordCells b).length := ⟨_, rfl⟩
  rw [← hn]
  have HN : Hid (n = xs.length + (wordCells b).length) := hn
  clear hn
  go_wp2
  go_ret
  exact ⟨g', cap', n, rfl, HN, h1, h2, h3⟩

set_option maxHeartbeats 400000 in
theorem bool_any (w : World) (p g cap : Nat) (xs : List Value) (more b : Bool) (h : Wr w p g cap xs more) (hx : xs.length ≤ 2097152) :
    Calls Try.prog 9 #[.pointer (some ⟨p, 0, none⟩), .bool b] w fun e w' => e = .returned (.pointer (some ⟨p, 0, none⟩)) ∧
      ∃ g' cap', Wr w' p g' cap' (xs ++ sep more ++ wordCells b) true ∧ Two p g w w' ∧ (g' = g ∨ w.heap.size ≤ g') := by
  have hsl := sep_le more
  go_enter Try.func9, Try.ntmps9
  go_wp2_with fail
  refine (comma_any w p g cap xs more h (by omega)).mono ?_
  rintro e w1 ⟨rfl, g1, cap1, W1', T1, hg1⟩
  obtain ⟨ys, hys, hl1, W1⟩ : ∃ ys, Hid (ys = xs ++ sep more) ∧ ys.length ≤ 2097153 ∧ Wr w1 p g1 cap1 ys more := ⟨_, rfl, by simp; omega, W1'⟩
  clear W1'
  have c0 := W1.cell0
  have hf := W1.free
  go_wp2_with fail
  refine (appendBool_any w1 g1 cap1 ys b W1.2 (by omega)).mono ?_
  rintro e w2 ⟨g2, cap2, n, rfl, HN, hown, hgrow, hat⟩
  have hp2 : w2.heap[p]? = w1.heap[p]? := hgrow.block p W1.lt (by have := W1.ne; simpa using this)
  have W2 := W1.store0 (n := n) hp2 hown (by simp [HN.out])
  have W3 := W2.store1 true
  have k0 : w2.cell? ⟨p, 0, none⟩ = some (.slice (some ⟨g1, 0, none⟩) ys.length cap1) := (World.cell?_of_block (a := ⟨p, 0, none⟩) hp2).trans c0
  have k1 : w2.frozen? ⟨p, 0, none⟩ = false := (World.frozen?_of_block (a := ⟨p, 0, none⟩) hp2).trans (hf 0)
  have k2 := W2.cell1
  have k3 := W2.free 1
  have T2 : Two p g1 w1 w2 := Two.grown hgrow
  clear c0 hf
  go_wp2
  go_ret
  refine ⟨rfl, g2, cap2, by rw [← hys.out]; exact W3, ((T1.trans T2 hg1).trans (Two.setCell p g _ _ _) (.inl rfl)).trans (Two.setCell p g _ _ _) (.inl rfl), ?_⟩
  have := T1.size
  rcases hat with hat | hat
  · rw [hat]; exact hg1
  · right; omega
end Go.Proofs.Qxb6613739a
