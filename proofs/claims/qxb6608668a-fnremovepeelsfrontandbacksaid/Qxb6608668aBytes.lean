import Derived.Test.Qxb6608668aClone
namespace Go.Proofs.Qxb6608668a
open Go.RowKit

/-- What the byte count leaves: a bool; the world as it was; true only where no string is long. -/
def BytesEnd (w : World) (n : Nat) (ss : List ByteArray) (e : Ending) (w' : World) : Prop :=
  ∃ r, e = .returned (.bool r) ∧ w' = w ∧ (r = true → n ≤ 1048576 ∧ ∀ t, t < n → (ss.getD t ByteArray.empty).size ≤ 1048576)

set_option maxHeartbeats 400000 in
theorem bytes_any (w : World) (b off n cap : Nat) (ss : List ByteArray) (i j : Int) (h : Arg w b off n ss) (hm : n ≤ 9223372036854775807) :
    Calls Try.prog 6 #[.slice (some ⟨b, off, none⟩) n cap, .int .i64 i, .int .i64 j] w fun e w' => BytesEnd w n ss e w' := by
  by_cases hn : n ≤ 1048576
  · have H : Hid (Arg w b off n ss) := h
    clear h
    go_enter Try.func6, Try.ntmps6
    go_wp2
    go_loop [7, 8] (fun zn i => ∃ (k : Nat) (z : Int), k ≤ n ∧ i = .int .i64 k ∧ zn = .int .i64 z ∧ 0 ≤ z ∧ z ≤ 1048576 ∧ Hid (∀ t, t < k → (ss.getD t ByteArray.empty).size ≤ 1048576)) (fun _ i => n - (intOf i).toNat)
    case atStart => exact ⟨0, n, Nat.zero_le _, rfl, rfl, by omega, by omega, fun t ht => by omega⟩
    case round =>
      obtain ⟨k, z, hk, rfl, rfl, hz0, hz1, HK⟩ := hrel
      by_cases hlt : k < n
      · have c1 := (H.out.2.2 k hlt).1
        have c2 := (H.out.2.2 k hlt).2
        obtain ⟨s, hs⟩ : ∃ s, s = ss.getD k ByteArray.empty := ⟨_, rfl⟩
        rw [← hs] at c1 c2
        have HS : Hid (s = ss.getD k ByteArray.empty) := hs
        clear hs
        by_cases h1 : s.size ≤ 1048576
        · by_cases h2 : z + s.size ≤ 1048576
          · go_wp2
            go_round
            case rel =>
              refine ⟨k + 1, z + s.size, by omega, by go_num, by go_num, by omega, by omega, fun t ht => ?_⟩
              by_cases e : t = k
              · subst e; rw [← HS.out]; exact h1
              · exact HK.out t (by omega)
            case measure => simp [intOf]; omega
          · go_wp2
            go_ret
            exact ⟨false, rfl, rfl, fun h => by cases h⟩
        · go_wp2
          go_ret
          exact ⟨false, rfl, rfl, fun h => by cases h⟩
      · go_wp2
        go_ret
        exact ⟨true, rfl, rfl, fun _ => ⟨hn, fun t ht => HK.out t (by omega)⟩⟩
  · clear h
    go_enter Try.func6, Try.ntmps6
    go_wp2
    go_ret
    exact ⟨false, rfl, rfl, fun h => by cases h⟩

set_option maxHeartbeats 400000 in
theorem bytes2_any (w : World) (b off n cap : Nat) (ss : List ByteArray) (i : Int) (h : Arg w b off n ss) (hm : n ≤ 9223372036854775807) :
    Calls Try.prog 11 #[.slice (some ⟨b, off, none⟩) n cap, .int .i64 i] w fun e w' => BytesEnd w n ss e w' := by
  by_cases hn : n ≤ 1048576
  · have H : Hid (Arg w b off n ss) := h
    clear h
    go_enter Try.func11, Try.ntmps11
    go_wp2
    go_loop [5, 6] (fun zn i => ∃ (k : Nat) (z : Int), k ≤ n ∧ i = .int .i64 k ∧ zn = .int .i64 z ∧ 0 ≤ z ∧ z ≤ 1048576 ∧ Hid (∀ t, t < k → (ss.getD t ByteArray.empty).size ≤ 1048576)) (fun _ i => n - (intOf i).toNat)
    case atStart => exact ⟨0, n, Nat.zero_le _, rfl, rfl, by omega, by omega, fun t ht => by omega⟩
    case round =>
      obtain ⟨k, z, hk, rfl, rfl, hz0, hz1, HK⟩ := hrel
      by_cases hlt : k < n
      · have c1 := (H.out.2.2 k hlt).1
        have c2 := (H.out.2.2 k hlt).2
        obtain ⟨s, hs⟩ : ∃ s, s = ss.getD k ByteArray.empty := ⟨_, rfl⟩
        rw [← hs] at c1 c2
        have HS : Hid (s = ss.getD k ByteArray.empty) := hs
        clear hs
        by_cases h1 : s.size ≤ 1048576
        · by_cases h2 : z + s.size ≤ 1048576
          · go_wp2
            go_round
            case rel =>
              refine ⟨k + 1, z + s.size, by omega, by go_num, by go_num, by omega, by omega, fun t ht => ?_⟩
              by_cases e : t = k
              · subst e; rw [← HS.out]; exact h1
              · exact HK.out t (by omega)
            case measure => simp [intOf]; omega
          · go_wp2
            go_ret
            exact ⟨false, rfl, rfl, fun h => by cases h⟩
        · go_wp2
          go_ret
          exact ⟨false, rfl, rfl, fun h => by cases h⟩
      · go_wp2
        go_ret
        exact ⟨true, rfl, rfl, fun _ => ⟨hn, fun t ht => HK.out t (by omega)⟩⟩
  · clear h
    go_enter Try.func11, Try.ntmps11
    go_wp2
    go_ret
    exact ⟨false, rfl, rfl, fun h => by cases h⟩
end Go.Proofs.Qxb6608668a
