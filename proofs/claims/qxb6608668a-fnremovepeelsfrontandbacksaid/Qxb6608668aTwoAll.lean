import Derived.Test.Qxb6608668aTwo
namespace Go.Proofs.Qxb6608668a
open Go.RowKit

set_option maxHeartbeats 1000000 in
theorem two_out (w : World) (b off n cap : Nat) (i j : Int) (ss : List ByteArray) (h : Arg w b off n ss) (hij : ¬ (0 ≤ i ∧ i < j ∧ j < n)) (hm : n ≤ 9223372036854775807) :
    Calls Try.prog 3 #[.slice (some ⟨b, off, none⟩) n cap, .int .i64 i, .int .i64 j] w fun e w' => e = .returned (.bool true) ∧ Below w.heap.size w w' := by
  have H : Hid (Arg w b off n ss) := h
  clear h
  go_enter Try.func3, Try.ntmps3
  go_wp2_with fail
  refine (bytes_any w b off n cap ss i j H.out hm).mono ?_
  rintro e w' ⟨r, rfl, rfl, hr⟩
  cases r with
  | false =>
    clear hr
    go_wp2
    go_ret
    exact ⟨rfl, Below.refl _ _⟩
  | true =>
    obtain ⟨hn, hsz⟩ := hr rfl
    have HZ : Hid (∀ t, t < n → (ss.getD t ByteArray.empty).size ≤ 1048576) := hsz
    clear hr hsz hm
    go_wp2
    go_loop [7, 8] (fun zn i => ∃ (k : Nat) (z : Int), k ≤ n ∧ i = .int .i64 k ∧ zn = .int .i64 z ∧ 0 ≤ z ∧ z ≤ 1048576) (fun _ i => n - (intOf i).toNat)
    case atStart => exact ⟨0, 0, Nat.zero_le _, rfl, rfl, by omega, by omega⟩
    case round =>
      obtain ⟨k, z, hk, rfl, rfl, hz0, hz1⟩ := hrel
      by_cases hlt : k < n
      · have c1 := (H.out.2.2 k hlt).1
        have c2 := HZ.out k hlt
        obtain ⟨s, hs⟩ : ∃ s, s = ss.getD k ByteArray.empty := ⟨_, rfl⟩
        rw [← hs] at c1 c2
        clear hs hij
        by_cases h2 : z + (16 + s.size) ≤ 1048576
        · go_wp2
          go_round
          case rel => exact ⟨k + 1, z + (16 + s.size), by omega, by go_num, by go_num, by omega, by omega⟩
          case measure => simp [intOf]; omega
        · go_wp2
          go_ret
          exact ⟨rfl, Below.refl _ _⟩
      · by_cases h6 : n ≤ 65536
        · by_cases h7 : i < 0
          · clear hij
            go_wp2
            go_ret
            exact ⟨rfl, Below.refl _ _⟩
          · by_cases h8 : j ≤ i
            · clear hij
              go_wp2
              go_ret
              exact ⟨rfl, Below.refl _ _⟩
            · have h9 : (n : Int) ≤ j := by omega
              clear hij
              go_wp2
              go_ret
              exact ⟨rfl, Below.refl _ _⟩
        · clear hij
          go_wp2
          go_ret
          exact ⟨rfl, Below.refl _ _⟩

theorem bytes_zero (w : World) (ao : Option Addr) (cap : Nat) (i j : Int) :
    Calls Try.prog 6 #[.slice ao 0 cap, .int .i64 i, .int .i64 j] w fun e w' => e = .returned (.bool true) ∧ w' = w := by
  go_enter Try.func6, Try.ntmps6
  go_wp2
  refine wp_loop_rounds 1 ?_
  rw [rounds_succ]
  go_wp2
  go_ret
  exact ⟨rfl, rfl⟩

set_option maxHeartbeats 400000 in
theorem two_zero (w : World) (ao : Option Addr) (cap : Nat) (i j : Int) :
    Calls Try.prog 3 #[.slice ao 0 cap, .int .i64 i, .int .i64 j] w fun e w' => e = .returned (.bool true) ∧ Below w.heap.size w w' := by
  have h : i < 0 ∨ (¬ i < 0 ∧ j ≤ i) ∨ (¬ i < 0 ∧ ¬ j ≤ i ∧ 0 ≤ j) := by omega
  go_enter Try.func3, Try.ntmps3
  go_wp2_with fail
  refine (bytes_zero w ao cap i j).mono ?_
  rintro e w' ⟨rfl, rfl⟩
  rcases h with h1 | ⟨h1, h2⟩ | ⟨h1, h2, h3⟩
  all_goals
    go_wp2
    refine wp_loop_rounds 1 ?_
    rw [rounds_succ]
    go_wp2
    go_ret
    exact ⟨rfl, Below.refl _ _⟩

/-- What the frame hands over of the names. -/
def IsNames (w : World) (a : Option Addr) (len cap : Nat) (ss : List ByteArray) : Prop :=
  (a = none ∧ len = 0 ∧ cap = 0 ∧ ss = []) ∨
  ∃ x, a = some x ∧ len ≤ cap ∧ cap ≤ maxLen ∧ len ≤ ss.length ∧ (∀ i, i < ss.length → w.cell? (x.add i) = some (.string (ss.getD i ByteArray.empty))) ∧ ∀ s ∈ ss, s.size ≤ maxLen

theorem IsNames.arg {w : World} {a : Option Addr} {len cap : Nat} {ss : List ByteArray} (h : IsNames w a len cap ss) (hn : 0 < len) :
    ∃ b off, a = some ⟨b, off, none⟩ ∧ len ≤ 9223372036854775807 ∧ Arg w b off len (ss.take len) := by
  rcases h with ⟨_, rfl, _, _⟩ | ⟨x, rfl, h1, h2, h3, h4, h5⟩
  · omega
  · obtain ⟨b, off, spot⟩ := x
    have hspot : spot = none := by simpa [Addr.add] using World.cell?_spot (h4 0 (by omega))
    subst hspot
    have hlt := World.block_lt_of_cell? w _ (h4 0 (by omega))
    refine ⟨b, off, rfl, by unfold maxLen at h2; omega, by simp; omega, by simpa [Addr.add] using hlt, fun j hj => ?_⟩
    have hg : (ss.take len).getD j ByteArray.empty = ss.getD j ByteArray.empty := by simp [List.getD, hj]
    rw [hg]
    refine ⟨?_, ?_⟩
    · have := h4 j (by omega)
      rwa [Addr.add_lit] at this
    · have : ss.getD j ByteArray.empty ∈ ss := by
        rw [List.getD, List.getElem?_eq_getElem (by omega)]
        exact List.getElem_mem _
      have := h5 _ this
      unfold maxLen at this
      omega

theorem two_any (w : World) (a : Option Addr) (len cap : Nat) (i j : Int) (ss : List ByteArray) (h : IsNames w a len cap ss) :
    Calls Try.prog 3 #[.slice a len cap, .int .i64 i, .int .i64 j] w fun e w' => e = .returned (.bool true) ∧ Below w.heap.size w w' := by
  by_cases hn : 0 < len
  · obtain ⟨b, off, rfl, hm, hA⟩ := h.arg hn
    by_cases hij : 0 ≤ i ∧ i < j ∧ j < len
    · obtain ⟨i', rfl⟩ := Int.eq_ofNat_of_zero_le hij.1
      obtain ⟨j', rfl⟩ := Int.eq_ofNat_of_zero_le (show 0 ≤ j by omega)
      exact two_in w b off len cap i' j' _ hA (by omega) (by omega) hm
    · exact two_out w b off len cap i j _ hA hij hm
  · obtain rfl : len = 0 := by omega
    exact two_zero w a cap i j
end Go.Proofs.Qxb6608668a
