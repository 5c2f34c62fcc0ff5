import Derived.Test.Qxb6608668aTwoAll
import Derived.Deep.QuietTactic
import Derived.BigQuiet
namespace Go.Proofs.Qxb6608668a
open Go.RowKit

theorem zzremove_zero (w : World) (p g cap n : Nat) (ss : List ByteArray) (h : Pl w p g cap ss) (hn : ss.length = n) (hi : 0 < n) (hs : n ≤ 1048576) :
    Calls Try.prog 9 #[.pointer (some ⟨p, 0, none⟩), .int .i64 0] w fun e w' => e = .returned (.tuple #[]) ∧ Pl w' p g cap (ss.eraseIdx 0) ∧ Two p g w w' := zzremove_any w p g cap 0 n ss h hn hi hs

theorem drop_erase (ss : List ByteArray) (t : Nat) : (ss.drop t).eraseIdx 0 = ss.drop (t + 1) := by
  rw [List.eraseIdx_zero, List.tail_drop]

theorem take_erase (ss : List ByteArray) (n t : Nat) (hn : ss.length = n) (ht : t < n) : (ss.take (n - t)).eraseIdx (n - 1 - t) = ss.take (n - (t + 1)) := by
  rw [List.eraseIdx_eq_take_drop_succ, List.take_take, List.drop_eq_nil_of_le (by simp; omega), List.append_nil]
  congr 1
  omega

set_option maxHeartbeats 2000000 in
theorem peel_in (w : World) (b off n cap k : Nat) (ss : List ByteArray) (h : Arg w b off n ss) (hk : k ≤ n) (h0 : 0 < n) (hm : n ≤ 9223372036854775807) :
    Calls Try.prog 4 #[.slice (some ⟨b, off, none⟩) n cap, .int .i64 k] w fun e w' => e = .returned (.bool true) ∧ Below w.heap.size w w' := by
  have H : Hid (Arg w b off n ss) := h
  clear h
  go_enter Try.func4, Try.ntmps4
  go_wp2_with fail
  refine (bytes2_any w b off n cap ss k H.out hm).mono ?_
  rintro e w' ⟨r, rfl, rfl, hr⟩
  cases r with
  | false =>
    clear hr
    go_wp2
    go_ret
    exact ⟨rfl, Below.refl _ _⟩
  | true =>
    obtain ⟨hn, hsz⟩ := hr rfl
    have HZ : Hid (∀ t, t < n → (ss.getD t ByteArray.empty).size ≤ 1048576) := hsz
    clear hr hsz hm
    go_wp2
    go_loop [5, 6] (fun zn i => ∃ (t : Nat) (z : Int), t ≤ n ∧ i = .int .i64 t ∧ zn = .int .i64 z ∧ 0 ≤ z ∧ z ≤ 1048576) (fun _ i => n - (intOf i).toNat)
    case atStart => exact ⟨0, 0, Nat.zero_le _, rfl, rfl, by omega, by omega⟩
    case round =>
      obtain ⟨t, z, ht, rfl, rfl, hz0, hz1⟩ := hrel
      by_cases hlt : t < n
      · have c1 := (H.out.2.2 t hlt).1
        have c2 := HZ.out t hlt
        obtain ⟨s, hs⟩ : ∃ s, s = ss.getD t ByteArray.empty := ⟨_, rfl⟩
        rw [← hs] at c1 c2
        clear hs
        by_cases h2 : z + (16 + s.size) ≤ 1048576
        · go_wp2
          go_round
          case rel => exact ⟨t + 1, z + (16 + s.size), by omega, by go_num, by go_num, by omega, by omega⟩
          case measure => simp [intOf]; omega
        · go_wp2
          go_ret
          exact ⟨rfl, Below.refl _ _⟩
      · by_cases h6 : n ≤ 1024
        · go_wp2_with fail
          refine (clone_any w' b off n cap ss H.out (by omega) hn).mono ?_
          rintro e w1 ⟨rfl, A1, A2, A3⟩
          go_wp2_with fail
          refine (with_any w1 _ _ _).mono ?_
          rintro e w2 ⟨rfl, rfl⟩
          have S2' := St1.made A1 A2 A3 H.out.1 hn
          obtain ⟨pa, hpa⟩ : ∃ pa, pa = w1.heap.size := ⟨_, rfl⟩
          obtain ⟨ga, hga⟩ : ∃ ga, ga = w'.heap.size := ⟨_, rfl⟩
          obtain ⟨w3, hw3⟩ : ∃ w3, w3 = w1.alloc (.cells #[.slice (some ⟨w'.heap.size, 0, none⟩) n n, .slice none 0 0, .slice none 0 0] 36) := ⟨_, rfl⟩
          rw [← hw3, ← hpa] at S2' ⊢
          rw [← hga] at S2'
          have S2 : Hid (St1 w' w3 pa ga n ss) := S2'
          clear A1 A2 A3 hw3 hpa hga S2'
          go_wp2
          go_loopw [9] (fun i wr => ∃ t : Nat, t ≤ k ∧ i = .int .i64 t ∧ Hid (St1 w' wr pa ga n (ss.drop t))) (fun i _ => k - (intOf i).toNat)
          case atStart => exact ⟨0, Nat.zero_le _, rfl, S2⟩
          case round =>
            obtain ⟨t2, ht2, rfl, SR⟩ := hrel
            by_cases hlt2 : t2 < k
            · go_wp2_with fail
              refine (zzremove_zero wr pa ga n (n - t2) _ SR.out.pl (by rw [List.length_drop, H.out.1]) (by omega) (by omega)).mono ?_
              rintro e w4 ⟨rfl, B1, B2⟩
              rw [drop_erase] at B1
              have S4 : Hid _ := SR.out.step B1 B2
              clear B1 B2 SR
              go_wp2
              go_roundw
              case rel => exact ⟨t2 + 1, by omega, by go_num, S4⟩
              case measure => simp [intOf]; omega
            · have S5 : Hid (St1 w' wr pa ga n (ss.drop k)) := by rw [show k = t2 by omega]; exact SR
              clear SR
              go_wp2_with fail
              refine (clone_any wr b off n cap ss (H.out.below S5.out.below) (by omega) hn).mono ?_
              rintro e w6 ⟨rfl, A1, A2, A3⟩
              go_wp2_with fail
              refine (with_any w6 _ _ _).mono ?_
              rintro e w7 ⟨rfl, rfl⟩
              have S7' := St2.made S5.out A1 A2 A3 H.out.1 hn
              obtain ⟨pb, hpb⟩ : ∃ pb, pb = w6.heap.size := ⟨_, rfl⟩
              obtain ⟨w8, hw8⟩ : ∃ w8, w8 = w6.alloc (.cells #[.slice (some ⟨wr.heap.size, 0, none⟩) n n, .slice none 0 0, .slice none 0 0] 36) := ⟨_, rfl⟩
              obtain ⟨gb, hgb⟩ : ∃ gb, gb = wr.heap.size := ⟨_, rfl⟩
              rw [← hw8, ← hpb] at S7' ⊢
              rw [← hgb] at S7'
              have S7 : Hid (St2 w' w8 pa ga n (ss.drop k) pb gb n (ss.take (n - 0))) := by rw [Nat.sub_zero, List.take_of_length_le (by rw [H.out.1]; exact Nat.le_refl _)]; exact S7'
              clear A1 A2 A3 hw8 hpb hgb S5 S7' S2
              go_wp2
              go_loopw [11] (fun i wr => ∃ t : Nat, t ≤ k ∧ i = .int .i64 t ∧ Hid (St2 w' wr pa ga n (ss.drop k) pb gb n (ss.take (n - t)))) (fun i _ => k - (intOf i).toNat)
              case atStart => exact ⟨0, Nat.zero_le _, rfl, S7⟩
              case round =>
                obtain ⟨t3, ht3, rfl, SR⟩ := hrel
                by_cases hlt3 : t3 < k
                · go_wp2_with fail
                  rw [show ((n : Int) - 1 - (t3 : Int)) = ((n - 1 - t3 : Nat) : Int) from by omega]
                  refine (zzremove_any _ pb gb n (n - 1 - t3) (n - t3) _ SR.out.snd.pl (by rw [List.length_take, H.out.1]; omega) (by omega) (by omega)).mono ?_
                  rintro e w9 ⟨rfl, B1, B2⟩
                  rw [take_erase ss n t3 H.out.1 (by omega)] at B1
                  have S9 : Hid _ := SR.out.step2 B1 B2
                  clear B1 B2 SR
                  go_wp2
                  go_roundw
                  case rel => exact ⟨t3 + 1, by omega, by go_num, S9⟩
                  case measure => simp [intOf]; omega
                · have S10 : Hid (St2 w' wr pa ga n (ss.drop k) pb gb n (ss.take (n - k))) := by rw [show n - k = n - t3 by omega]; exact SR
                  clear SR S7
                  obtain ⟨m, hm1, hm2⟩ : ∃ m, m + k ≤ n ∧ n ≤ m + k := ⟨n - k, by omega, by omega⟩
                  have p1 := S10.out.fst.pl.cell0 (n := m) (by rw [List.length_drop, H.out.1]; omega)
                  have p2 := S10.out.snd.pl.cell0 (n := m) (by rw [List.length_take, H.out.1]; omega)
                  have BE : Hid _ := S10.out.fst.below
                  have CA : Hid (∀ t, t < m → wr.cell? ⟨ga, t, none⟩ = some (.string (ss.getD (k + t) ByteArray.empty))) := fun t ht => by
                    have := (S10.out.fst.pl.row t (by rw [List.length_drop, H.out.1]; omega)).1
                    rwa [show (ss.drop k).getD t ByteArray.empty = ss.getD (k + t) ByteArray.empty by simp [List.getD]] at this
                  have CB : Hid (∀ t, t < m → wr.cell? ⟨gb, t, none⟩ = some (.string (ss.getD t ByteArray.empty))) := fun t ht => by
                    have := (S10.out.snd.pl.row t (by rw [List.length_take, H.out.1]; omega)).1
                    rwa [show (ss.take (n - k)).getD t ByteArray.empty = ss.getD t ByteArray.empty by simp [List.getD, show t < n - k by omega]] at this
                  have CP : Hid (∀ t, t < n → wr.cell? ⟨b, off + t, none⟩ = some (.string (ss.getD t ByteArray.empty))) := fun t ht => ((H.out.below S10.out.fst.below).2.2 t ht).1
                  clear S10
                  go_wp2_with fail
                  refine (peers_any _ pa _ _ _ p1).mono ?_
                  rintro e w11 ⟨rfl, rfl⟩
                  go_wp2_with fail
                  refine (peers_any _ pb _ _ _ p2).mono ?_
                  rintro e w12 ⟨rfl, rfl⟩
                  clear p1 p2
                  have hne : ((m : Int) != (n : Int) - (k : Int)) = false := by simp; omega
                  go_wp2
                  clear hne
                  go_loopw [14] (fun i wr => ∃ t : Nat, t ≤ m ∧ i = .int .i64 t ∧ ∃ nq, wr = w12.drewN nq) (fun i _ => m - (intOf i).toNat)
                  case atStart => exact ⟨0, Nat.zero_le _, rfl, 0, rfl⟩
                  case round =>
                    obtain ⟨t4, ht4, rfl, nq, rfl⟩ := hrel
                    by_cases hlt4 : t4 < m
                    · have c1 := CA.out t4 hlt4
                      have c2 := CB.out t4 hlt4
                      have c3 := CP.out (k + t4) (by omega)
                      have c4 := CP.out t4 (by omega)
                      obtain ⟨s1, hs1⟩ : ∃ s, s = ss.getD (k + t4) ByteArray.empty := ⟨_, rfl⟩
                      rw [← hs1] at c1 c3
                      obtain ⟨s2, hs2⟩ : ∃ s, s = ss.getD t4 ByteArray.empty := ⟨_, rfl⟩
                      rw [← hs2] at c2 c4
                      clear hs1 hs2
                      have q0 : (0 : Int) ≤ (k : Int) + (t4 : Int) := by omega
                      have q1 : (k : Int) + (t4 : Int) < (n : Int) := by omega
                      have q2 : ((k : Int) + (t4 : Int)).toNat = k + t4 := by omega
                      have q3 : (t4 : Int) < (m : Int) := by omega
                      have q4 : (t4 : Int) < (n : Int) := by omega
                      go_wp2
                      go_quiet (fail)
                      go_wp2
                      go_roundw
                      case rel => exact ⟨t4 + 1, by omega, by go_num, _, rfl⟩
                      case measure => simp [intOf]; omega
                    · go_wp2
                      go_ret
                      exact ⟨rfl, below_drewN BE.out _⟩
        · go_wp2
          go_ret
          exact ⟨rfl, Below.refl _ _⟩
end Go.Proofs.Qxb6608668a
