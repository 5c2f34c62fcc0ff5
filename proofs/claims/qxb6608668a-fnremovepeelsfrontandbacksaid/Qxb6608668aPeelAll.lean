import Derived.Test.Qxb6608668aPeel
namespace Go.Proofs.Qxb6608668a
open Go.RowKit

set_option maxHeartbeats 1000000 in
theorem peel_out (w : World) (b off n cap : Nat) (k : Int) (ss : List ByteArray) (h : Arg w b off n ss) (hk : ¬ (0 ≤ k ∧ k ≤ n)) (hm : n ≤ 9223372036854775807) :
    Calls Try.prog 4 #[.slice (some ⟨b, off, none⟩) n cap, .int .i64 k] w fun e w' => e = .returned (.bool true) ∧ Below w.heap.size w w' := by
  have H : Hid (Arg w b off n ss) := h
  clear h
  go_enter Try.func4, Try.ntmps4
  go_wp2_with fail
  refine (bytes2_any w b off n cap ss k H.out hm).mono ?_
  rintro e w' ⟨r, rfl, rfl, hr⟩
  cases r with
  | false =>
    clear hr hk
    go_wp2
    go_ret
    exact ⟨rfl, Below.refl _ _⟩
  | true =>
    obtain ⟨hn, hsz⟩ := hr rfl
    have HZ : Hid (∀ t, t < n → (ss.getD t ByteArray.empty).size ≤ 1048576) := hsz
    have HK : Hid (¬ (0 ≤ k ∧ k ≤ n)) := hk
    clear hr hsz hm hk
    go_wp2
    go_loop [5, 6] (fun zn i => ∃ (t : Nat) (z : Int), t ≤ n ∧ i = .int .i64 t ∧ zn = .int .i64 z ∧ 0 ≤ z ∧ z ≤ 1048576) (fun _ i => n - (intOf i).toNat)
    case atStart => exact ⟨0, 0, Nat.zero_le _, rfl, rfl, by omega, by omega⟩
    case round =>
      obtain ⟨t, z, ht, rfl, rfl, hz0, hz1⟩ := hrel
      by_cases hlt : t < n
      · have c1 := (H.out.2.2 t hlt).1
        have c2 := HZ.out t hlt
        obtain ⟨s, hs⟩ : ∃ s, s = ss.getD t ByteArray.empty := ⟨_, rfl⟩
        rw [← hs] at c1 c2
        clear hs
        by_cases h2 : z + (16 + s.size) ≤ 1048576
        · go_wp2
          go_round
          case rel => exact ⟨t + 1, z + (16 + s.size), by omega, by go_num, by go_num, by omega, by omega⟩
          case measure => simp [intOf]; omega
        · go_wp2
          go_ret
          exact ⟨rfl, Below.refl _ _⟩
      · by_cases h6 : n ≤ 1024
        · by_cases h7 : k < 0
          · go_wp2
            go_ret
            exact ⟨rfl, Below.refl _ _⟩
          · have h9 : (n : Int) < k := by have := HK.out; omega
            go_wp2
            go_ret
            exact ⟨rfl, Below.refl _ _⟩
        · go_wp2
          go_ret
          exact ⟨rfl, Below.refl _ _⟩

theorem bytes2_zero (w : World) (ao : Option Addr) (cap : Nat) (k : Int) :
    Calls Try.prog 11 #[.slice ao 0 cap, .int .i64 k] w fun e w' => e = .returned (.bool true) ∧ w' = w := by
  go_enter Try.func11, Try.ntmps11
  go_wp2
  refine wp_loop_rounds 1 ?_
  rw [rounds_succ]
  go_wp2
  go_ret
  exact ⟨rfl, rfl⟩

/-- What the clone of no names leaves. -/
def NoneEnd (w : World) (e : Ending) (w' : World) : Prop := ∃ a, e = .returned (.slice a 0 0) ∧ Below w.heap.size w w'

theorem clone_zero (w : World) (ao : Option Addr) (cap : Nat) : Calls Try.prog 8 #[.slice ao 0 cap] w fun e w' => NoneEnd w e w' := by
  have hnil := fun w a n c => Lib.run_eql_slice_nil (P := Try.prog) w 22 9 a n c 0 0 Try.underlying22
  have hmk : ∀ w, (Instr.makeSlice 22 (.int .i64 0) (.int .i64 0)).run Try.prog w = .ok (.slice (some ⟨w.heap.size, 0, none⟩) 0 0) (w.alloc (.cells #[] 9)) := fun _ => by kernel_rfl
  cases ao with
  | none =>
    go_enter Try.func8, Try.ntmps8
    go_wp2
    go_ret
    exact ⟨none, rfl, Below.refl _ _⟩
  | some x =>
    go_enter Try.func8, Try.ntmps8
    go_wp2
    refine wp_loop_rounds 1 ?_
    rw [rounds_succ]
    go_wp2
    go_ret
    exact ⟨_, rfl, (Below.refl _ _).alloc (Nat.le_refl _) _⟩

set_option maxHeartbeats 400000 in
theorem peel_zero_out (w : World) (ao : Option Addr) (cap : Nat) (k : Int) (h : ¬ k = 0) :
    Calls Try.prog 4 #[.slice ao 0 cap, .int .i64 k] w fun e w' => e = .returned (.bool true) ∧ Below w.heap.size w w' := by
  have h : k < 0 ∨ (¬ k < 0 ∧ 0 < k) := by omega
  go_enter Try.func4, Try.ntmps4
  go_wp2_with fail
  refine (bytes2_zero w ao cap k).mono ?_
  rintro e w' ⟨rfl, rfl⟩
  rcases h with h1 | ⟨h1, h2⟩
  all_goals
    go_wp2
    refine wp_loop_rounds 1 ?_
    rw [rounds_succ]
    go_wp2
    go_ret
    exact ⟨rfl, Below.refl _ _⟩

set_option maxHeartbeats 1000000 in
theorem peel_zero (w : World) (ao : Option Addr) (cap : Nat) :
    Calls Try.prog 4 #[.slice ao 0 cap, .int .i64 0] w fun e w' => e = .returned (.bool true) ∧ Below w.heap.size w w' := by
  go_enter Try.func4, Try.ntmps4
  go_wp2_with fail
  refine (bytes2_zero w ao cap 0).mono ?_
  rintro e w' ⟨rfl, rfl⟩
  go_wp2
  refine wp_loop_rounds 1 ?_
  rw [rounds_succ]
  go_wp2_with fail
  refine (clone_zero w' ao cap).mono ?_
  rintro e w1 ⟨a1, rfl, B1⟩
  go_wp2_with fail
  refine (with_any w1 _ _ _).mono ?_
  rintro e w2 ⟨rfl, hw2⟩
  have c2 : w2.cell? ⟨w1.heap.size, 0, none⟩ = some (.slice a1 0 0) := by rw [hw2]; simp
  have l2 : w1.heap.size < w2.heap.size := by rw [hw2]; simp
  have B2 : Hid (Below w'.heap.size w' w2) := by rw [hw2]; exact B1.alloc B1.size _
  obtain ⟨pa, hpa⟩ : ∃ pa, pa = w1.heap.size := ⟨_, rfl⟩
  rw [← hpa] at c2 l2 ⊢
  clear hw2 hpa B1
  go_wp2
  refine wp_loop_rounds 1 ?_
  rw [rounds_succ]
  go_wp2_with fail
  refine (clone_zero w2 ao cap).mono ?_
  rintro e w3 ⟨a2, rfl, B3⟩
  go_wp2_with fail
  refine (with_any w3 _ _ _).mono ?_
  rintro e w4 ⟨rfl, hw4⟩
  have c4 : w4.cell? ⟨w3.heap.size, 0, none⟩ = some (.slice a2 0 0) := by rw [hw4]; simp
  have B4 : Hid (Below w'.heap.size w' w4) := by
    have h1 := B2.out.size
    have h2 := B3.size
    rw [hw4]; exact (B2.out.trans (B3.mono h1)).alloc (by omega) _
  have c5 : w4.cell? ⟨pa, 0, none⟩ = some (.slice a1 0 0) := by
    have h2 := B3.size
    rw [hw4, World.cell?_of_block (w := w3) (a := ⟨pa, 0, none⟩) (Below.heap_alloc _ _ _ (by show pa < _; omega)), B3.cell (p := ⟨pa, 0, none⟩) l2]
    exact c2
  obtain ⟨pb, hpb⟩ : ∃ pb, pb = w3.heap.size := ⟨_, rfl⟩
  rw [← hpb] at c4 ⊢
  clear hw4 hpb B3 c2 l2 B2
  go_wp2
  refine wp_loop_rounds 1 ?_
  rw [rounds_succ]
  go_wp2_with fail
  refine (peers_any _ pa _ _ _ c5).mono ?_
  rintro e w5 ⟨rfl, rfl⟩
  go_wp2_with fail
  refine (peers_any _ pb _ _ _ c4).mono ?_
  rintro e w6 ⟨rfl, rfl⟩
  clear c4 c5
  go_wp2
  refine wp_loop_rounds 1 ?_
  rw [rounds_succ]
  go_wp2
  go_ret
  exact ⟨rfl, B4.out⟩

theorem peel_any (w : World) (a : Option Addr) (len cap : Nat) (k : Int) (ss : List ByteArray) (h : IsNames w a len cap ss) :
    Calls Try.prog 4 #[.slice a len cap, .int .i64 k] w fun e w' => e = .returned (.bool true) ∧ Below w.heap.size w w' := by
  by_cases hn : 0 < len
  · obtain ⟨b, off, rfl, hm, hA⟩ := h.arg hn
    by_cases hk : 0 ≤ k ∧ k ≤ len
    · obtain ⟨k', rfl⟩ := Int.eq_ofNat_of_zero_le hk.1
      exact peel_in w b off len cap k' _ hA (by omega) hn hm
    · exact peel_out w b off len cap k _ hA hk hm
  · obtain rfl : len = 0 := by omega
    by_cases hk : k = 0
    · subst hk; exact peel_zero w a cap
    · exact peel_zero_out w a cap k hk
end Go.Proofs.Qxb6608668a
