import Derived.Test.Qxb6613739aWalkB
namespace Go.Proofs.Qxb6613739a
open Go.RowKit

def sep (more : Bool) : List Value := if more then [.int .u8 44] else []

theorem comma_any (w : World) (p g cap : Nat) (xs : List Value) (more : Bool) (h : Wr w p g cap xs more) (hx : xs.length ≤ 4194304) :
    Calls Try.prog 26 #[.pointer (some ⟨p, 0, none⟩)] w fun e w' => e = .returned (.tuple #[]) ∧ ∃ g' cap', Wr w' p g' cap' (xs ++ sep more) more ∧ Two p g w w' ∧ (g' = g ∨ w.heap.size ≤ g') := by
  cases more with
  | true => exact comma_t w p g cap xs h hx
  | false =>
    refine (comma_f w p g cap xs h).mono ?_
    rintro e w' ⟨rfl, rfl⟩
    exact ⟨rfl, g, cap, by simpa [sep] using h, Two.refl _ _ _, .inl rfl⟩

theorem sep_le (more : Bool) : (sep more).length ≤ 1 := by cases more <;> simp [sep]

set_option maxHeartbeats 400000 in
theorem raw_any (w : World) (p g cap : Nat) (xs : List Value) (more : Bool) (h : Wr w p g cap xs more) (hx : xs.length ≤ 2097152)
    (ao : Option Addr) (m c : Nat) (news : List Value) (hm : m ≤ 1048576) (hs : ∀ w', Two p g w w' → Src Try.prog 1 27 (.slice ao m c) m news w') :
    Calls Try.prog 16 #[.pointer (some ⟨p, 0, none⟩), .slice ao m c] w fun e w' => e = .returned (.pointer (some ⟨p, 0, none⟩)) ∧
      ∃ g' cap', Wr w' p g' cap' (xs ++ sep more ++ news) true ∧ Two p g w w' ∧ (g' = g ∨ w.heap.size ≤ g') := by
  obtain ⟨i0, hi, hz0, hz1, hz2⟩ := info_parts info5
  have hsl := sep_le more
  go_enter Try.func16, Try.ntmps16
  go_wp2_with fail
  refine (comma_any w p g cap xs more h (by omega)).mono ?_
  rintro e w1 ⟨rfl, g1, cap1, W1', T1, hg1⟩
  obtain ⟨ys, hys, hl1, W1⟩ : ∃ ys, Hid (ys = xs ++ sep more) ∧ ys.length ≤ 2097153 ∧ Wr w1 p g1 cap1 ys more := ⟨_, rfl, by simp; omega, W1'⟩
  clear W1'
  have c0 := W1.cell0
  have hf := W1.free
  have S1 := hs w1 T1
  have hnl : news.length = m := by simpa using S1.newsLen
  clear hs
  go_wp2_with (at_builtin; refine wpList_append_has _ rfl _ _ 27 27 rfl 5 i0 (.int .u8 0) 1 Try.underlying27 hi hz0 hz1 hz2 rfl g1 cap1 ys.length ys rfl rfl W1.2 _ rfl m news S1 (by unfold maxLen; omega) (by omega) ?_)
  intro g2 cap2 w2 hown hgrow hat
  have hp2 : w2.heap[p]? = w1.heap[p]? := hgrow.block p W1.lt (by have := W1.ne; simpa using this)
  have W2 := W1.store0 (n := ys.length + m) hp2 hown (by simp [hnl])
  have W3 := W2.store1 true
  have k0 : w2.cell? ⟨p, 0, none⟩ = some (.slice (some ⟨g1, 0, none⟩) ys.length cap1) := (World.cell?_of_block (a := ⟨p, 0, none⟩) hp2).trans c0
  have k1 : w2.frozen? ⟨p, 0, none⟩ = false := (World.frozen?_of_block (a := ⟨p, 0, none⟩) hp2).trans (hf 0)
  have k2 := W2.cell1
  have k3 := W2.free 1
  have T2 : Two p g1 w1 w2 := Two.grown hgrow
  clear c0 hf S1
  go_wp2
  go_ret
  refine ⟨rfl, g2, cap2, by rw [← hys.out]; exact W3, ((T1.trans T2 hg1).trans (Two.setCell p g _ _ _) (.inl rfl)).trans (Two.setCell p g _ _ _) (.inl rfl), ?_⟩
  have := T1.size
  rcases hat with hat | hat
  · rw [hat]; exact hg1
  · right; omega
end Go.Proofs.Qxb6613739a
