import Derived.Test.Qxb6608668aState
namespace Go.Proofs.Qxb6608668a
open Go.RowKit

set_option maxHeartbeats 1600000 in
theorem two_in (w : World) (b off n cap i j : Nat) (ss : List ByteArray) (h : Arg w b off n ss) (hij : i < j) (hj : j < n) (hm : n ≤ 9223372036854775807) :
    Calls Try.prog 3 #[.slice (some ⟨b, off, none⟩) n cap, .int .i64 i, .int .i64 j] w fun e w' => e = .returned (.bool true) ∧ Below w.heap.size w w' := by
  have H : Hid (Arg w b off n ss) := h
  clear h
  go_enter Try.func3, Try.ntmps3
  go_wp2_with fail
  refine (bytes_any w b off n cap ss i j H.out hm).mono ?_
  rintro e w' ⟨r, rfl, rfl, hr⟩
  cases r with
  | false =>
    clear hr
    go_wp2
    go_ret
    exact ⟨rfl, Below.refl _ _⟩
  | true =>
    obtain ⟨hn, hsz⟩ := hr rfl
    have HZ : Hid (∀ t, t < n → (ss.getD t ByteArray.empty).size ≤ 1048576) := hsz
    clear hr hsz hm
    go_wp2
    go_loop [7, 8] (fun zn i => ∃ (k : Nat) (z : Int), k ≤ n ∧ i = .int .i64 k ∧ zn = .int .i64 z ∧ 0 ≤ z ∧ z ≤ 1048576) (fun _ i => n - (intOf i).toNat)
    case atStart => exact ⟨0, 0, Nat.zero_le _, rfl, rfl, by omega, by omega⟩
    case round =>
      obtain ⟨k, z, hk, rfl, rfl, hz0, hz1⟩ := hrel
      by_cases hlt : k < n
      · have c1 := (H.out.2.2 k hlt).1
        have c2 := HZ.out k hlt
        obtain ⟨s, hs⟩ : ∃ s, s = ss.getD k ByteArray.empty := ⟨_, rfl⟩
        rw [← hs] at c1 c2
        clear hs
        by_cases h2 : z + (16 + s.size) ≤ 1048576
        · go_wp2
          go_round
          case rel => exact ⟨k + 1, z + (16 + s.size), by omega, by go_num, by go_num, by omega, by omega⟩
          case measure => simp [intOf]; omega
        · go_wp2
          go_ret
          exact ⟨rfl, Below.refl _ _⟩
      · by_cases h6 : n ≤ 65536
        · go_wp2_with fail
          refine (clone_any w' b off n cap ss H.out (by omega) hn).mono ?_
          rintro e w1 ⟨rfl, A1, A2, A3⟩
          go_wp2_with fail
          refine (with_any w1 _ _ _).mono ?_
          rintro e w2 ⟨rfl, rfl⟩
          have S2 := St1.made A1 A2 A3 H.out.1 hn
          obtain ⟨pa, hpa⟩ : ∃ pa, pa = w1.heap.size := ⟨_, rfl⟩
          obtain ⟨ga, hga⟩ : ∃ ga, ga = w'.heap.size := ⟨_, rfl⟩
          obtain ⟨w3, hw3⟩ : ∃ w3, w3 = w1.alloc (.cells #[.slice (some ⟨w'.heap.size, 0, none⟩) n n, .slice none 0 0, .slice none 0 0] 36) := ⟨_, rfl⟩
          rw [← hw3, ← hpa] at S2 ⊢
          rw [← hga] at S2
          clear A1 A2 A3 hw3 hpa hga
          have la := len_a ss i j n H.out.1 hij hj
          have lb := len_b ss i j n H.out.1 hij hj
          have LA : Hid _ := la
          have LB : Hid _ := lb
          clear la lb
          go_wp2_with fail
          refine (zzremove_any w3 pa ga n j n ss S2.pl H.out.1 hj hn).mono ?_
          rintro e w4 ⟨rfl, B1, B2⟩
          have S4 := S2.step B1 B2
          clear S2 B1 B2
          go_wp2_with fail
          refine (zzremove_any w4 pa ga n i (n - 1) _ S4.pl LA.out.1 (by omega) (by omega)).mono ?_
          rintro e w5 ⟨rfl, B1, B2⟩
          have S5 := S4.step B1 B2
          clear S4 B1 B2
          go_wp2_with fail
          refine (clone_any w5 b off n cap ss (H.out.below S5.below) (by omega) hn).mono ?_
          rintro e w6 ⟨rfl, A1, A2, A3⟩
          go_wp2_with fail
          refine (with_any w6 _ _ _).mono ?_
          rintro e w7 ⟨rfl, rfl⟩
          have S7 := St2.made S5 A1 A2 A3 H.out.1 hn
          obtain ⟨pb, hpb⟩ : ∃ pb, pb = w6.heap.size := ⟨_, rfl⟩
          obtain ⟨w8, hw8⟩ : ∃ w8, w8 = w6.alloc (.cells #[.slice (some ⟨w5.heap.size, 0, none⟩) n n, .slice none 0 0, .slice none 0 0] 36) := ⟨_, rfl⟩
          obtain ⟨gb, hgb⟩ : ∃ gb, gb = w5.heap.size := ⟨_, rfl⟩
          rw [← hw8, ← hpb] at S7 ⊢
          rw [← hgb] at S7
          clear A1 A2 A3 hw8 hpb hgb S5
          go_wp2_with fail
          refine (zzremove_any w8 pb gb n i n ss S7.snd.pl H.out.1 (by omega) hn).mono ?_
          rintro e w9 ⟨rfl, B1, B2⟩
          have S9 := S7.step2 B1 B2
          clear S7 B1 B2
          go_wp2_with fail
          rw [show ((j : Int) - 1) = ((j - 1 : Nat) : Int) from by omega]
          refine (zzremove_any w9 pb gb n (j - 1) (n - 1) _ S9.snd.pl LB.out.1 (by omega) (by omega)).mono ?_
          rintro e w10 ⟨rfl, B1, B2⟩
          have S10 := S9.step2 B1 B2
          clear S9 B1 B2
          obtain ⟨m, hm1, hm2⟩ : ∃ m, m + 2 ≤ n ∧ n ≤ m + 2 := ⟨n - 2, by omega, by omega⟩
          have p1 := S10.fst.pl.cell0 (n := m) (by rw [LA.out.2]; omega)
          have p2 := S10.snd.pl.cell0 (n := m) (by rw [LB.out.2]; omega)
          have BE : Hid _ := S10.fst.below
          have CA : Hid (∀ t, t < m → w10.cell? ⟨ga, t, none⟩ = some (.string (want ss i j t))) := fun t ht => by
            have := (S10.fst.pl.row t (by rw [LA.out.2]; omega)).1
            rwa [want_a ss i j t hij] at this
          have CB : Hid (∀ t, t < m → w10.cell? ⟨gb, t, none⟩ = some (.string (want ss i j t))) := fun t ht => by
            have := (S10.snd.pl.row t (by rw [LB.out.2]; omega)).1
            rwa [want_b ss i j t hij] at this
          have CP : Hid (∀ t, t < n → w10.cell? ⟨b, off + t, none⟩ = some (.string (ss.getD t ByteArray.empty))) := fun t ht => ((H.out.below S10.fst.below).2.2 t ht).1
          clear S10
          go_wp2_with fail
          refine (peers_any w10 pa _ _ _ p1).mono ?_
          rintro e w11 ⟨rfl, rfl⟩
          go_wp2_with fail
          refine (peers_any w11 pb _ _ _ p2).mono ?_
          rintro e w12 ⟨rfl, rfl⟩
          clear p1 p2
          have hne : ((m : Int) != (n : Int) - 2) = false := by simp; omega
          go_wp2
          clear hne
          go_loop [14, 15] (fun t _ => ∃ k : Nat, k ≤ m ∧ t = .int .i64 k) (fun t _ => m - (intOf t).toNat)
          case atStart => exact ⟨0, Nat.zero_le _, rfl⟩
          case round =>
            obtain ⟨t, ht, rfl⟩ := hrel
            by_cases htm : t < m
            · have c1 := CA.out t htm
              have c2 := CB.out t htm
              have c3 := CP.out (t + 2) (by omega)
              obtain ⟨s, hs⟩ : ∃ s, s = want ss i j t := ⟨_, rfl⟩
              rw [← hs] at c1 c2
              have q0 : (0 : Int) ≤ (t : Int) + 2 := by omega
              have q1 : (t : Int) + 2 < (n : Int) := by omega
              have q2 : ((t : Int) + 2).toNat = t + 2 := by omega
              by_cases h1 : t < i
              · have c4 := CP.out t (by omega)
                rw [want, if_pos h1] at hs
                rw [← hs] at c4
                clear hs
                obtain ⟨s2, hs2⟩ : ∃ s2, s2 = ss.getD (t + 2) ByteArray.empty := ⟨_, rfl⟩
                rw [← hs2] at c3
                clear hs2
                go_wp2
                go_round
                case rel => exact ⟨t + 1, by omega, by go_num⟩
                case measure => simp [intOf]; omega
              · by_cases h2 : t < j - 1
                · have c4 := CP.out (t + 1) (by omega)
                  rw [want, if_neg h1, if_pos h2] at hs
                  rw [← hs] at c4
                  clear hs
                  obtain ⟨s2, hs2⟩ : ∃ s2, s2 = ss.getD (t + 2) ByteArray.empty := ⟨_, rfl⟩
                  rw [← hs2] at c3
                  clear hs2
                  have q3 : (0 : Int) ≤ (t : Int) + 1 := by omega
                  have q4 : (t : Int) + 1 < (n : Int) := by omega
                  have q5 : ((t : Int) + 1).toNat = t + 1 := by omega
                  have q6 : (t : Int) < (j : Int) - 1 := by omega
                  go_wp2
                  go_round
                  case rel => exact ⟨t + 1, by omega, by go_num⟩
                  case measure => simp [intOf]; omega
                · rw [want, if_neg h1, if_neg h2] at hs
                  rw [← hs] at c3
                  clear hs
                  have q6 : ¬ (t : Int) < (j : Int) - 1 := by omega
                  go_wp2
                  go_round
                  case rel => exact ⟨t + 1, by omega, by go_num⟩
                  case measure => simp [intOf]; omega
            · go_wp2
              go_ret
              exact ⟨rfl, BE.out⟩
        · go_wp2
          go_ret
          exact ⟨rfl, Below.refl _ _⟩
end Go.Proofs.Qxb6608668a
