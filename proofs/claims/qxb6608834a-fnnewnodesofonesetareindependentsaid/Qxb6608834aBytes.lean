import Derived.Test.Qxb6608834aArgs
namespace Go.Proofs.Qxb6608834a
open Go.RowKit

/-- What a true byte count says. -/
structure Small (s0 s1 s2 : ByteArray) (nl nt na : Nat) (ks vs x y z nm : Nat → ByteArray) : Prop where
  d0 : s0.size ≤ 1048576
  d1 : s1.size ≤ 1048576
  d2 : s2.size ≤ 1048576
  d3 : nl ≤ 1048576
  d4 : nt ≤ 1048576
  d5 : na ≤ 1048576
  dl : ∀ k, k < nl → (ks k).size ≤ 1048576 ∧ (vs k).size ≤ 1048576
  dt : ∀ k, k < nt → (x k).size ≤ 1048576 ∧ (y k).size ≤ 1048576 ∧ (z k).size ≤ 1048576
  da : ∀ k, k < na → (nm k).size ≤ 1048576

def ZEnd (w : World) (s0 s1 s2 : ByteArray) (nl nt na : Nat) (ks vs x y z nm : Nat → ByteArray) (e : Ending) (w' : World) : Prop :=
  ∃ r, e = .returned (.bool r) ∧ w' = w ∧ (r = true → Small s0 s1 s2 nl nt na ks vs x y z nm)

theorem ZEnd.no {w : World} {s0 s1 s2 : ByteArray} {nl nt na : Nat} {ks vs x y z nm : Nat → ByteArray} : ZEnd w s0 s1 s2 nl nt na ks vs x y z nm (.returned (.bool false)) w := ⟨false, rfl, rfl, fun h => by cases h⟩

set_option maxRecDepth 100000 in
set_option maxHeartbeats 2000000 in
theorem bytes_any (w : World) (s0 s1 s2 : ByteArray) (q : Int) (al : Option Addr) (nl cl bl ol : Nat) (ks vs : Nat → ByteArray) (ta : Option Addr) (nt ct bt ot : Nat) (x y z : Nat → ByteArray) (aa : Option Addr) (na ca ba oa : Nat) (nm : Nat → ByteArray) (am : Nat → Int)
    (h0 : s0.size ≤ 9223372036854775807) (h1 : s1.size ≤ 9223372036854775807) (h2 : s2.size ≤ 9223372036854775807) (hl : ArgL w al nl cl bl ol ks vs) (ht : ArgT w ta nt ct bt ot x y z) (ha : ArgA w aa na ca ba oa nm am)
    (ml : nl ≤ 9223372036854775807) (mt : nt ≤ 9223372036854775807) (ma : na ≤ 9223372036854775807) :
    Calls Try.prog 24 #[.string s0, .int .i64 q, .slice al nl cl, .slice ta nt ct, .slice aa na ca, .string s1, .string s2] w fun e w' => ZEnd w s0 s1 s2 nl nt na ks vs x y z nm e w' := by
  have HL : Hid (ArgL w al nl cl bl ol ks vs) := hl
  have HT : Hid (ArgT w ta nt ct bt ot x y z) := ht
  have HA : Hid (ArgA w aa na ca ba oa nm am) := ha
  clear hl ht ha
  by_cases p0 : s0.size ≤ 1048576
  case neg =>
    go_enter Try.func24, Try.ntmps24
    go_wp2
    go_ret
    exact ZEnd.no
  by_cases p1 : nl ≤ 1048576
  case neg =>
    go_enter Try.func24, Try.ntmps24
    go_wp2
    go_ret
    exact ZEnd.no
  by_cases p2 : s0.size + nl ≤ 1048576
  case neg =>
    go_enter Try.func24, Try.ntmps24
    go_wp2
    go_ret
    exact ZEnd.no
  go_enter Try.func24, Try.ntmps24
  go_wp2
  go_loop [15, 16, 17] (fun s i _ => ∃ (k : Nat) (y : Int), k ≤ nl ∧ i = .int .i64 k ∧ s = .int .i64 y ∧ 0 ≤ y ∧ y ≤ 1048576 ∧ Hid (∀ t, t < k → (ks t).size ≤ 1048576 ∧ (vs t).size ≤ 1048576)) (fun _ i _ => nl - (intOf i).toNat)
  case atStart => exact ⟨0, _, Nat.zero_le _, rfl, rfl, by omega, by omega, fun t ht => by omega⟩
  case round =>
    obtain ⟨k, y0, hk, rfl, rfl, hy0, hy1, HK⟩ := hrel
    by_cases hlt : k < nl
    · have i1 := HL.out.1 k hlt
      have c1 := (HL.out.2 k hlt).2.1
      have c3 := (HL.out.2 k hlt).2.2.1
      have c2 := (HL.out.2 k hlt).2.2.2.1
      have c4 := (HL.out.2 k hlt).2.2.2.2
      obtain ⟨s, hs⟩ : ∃ s, s = ks k := ⟨_, rfl⟩
      rw [← hs] at c1 c2
      have ES : Hid (s = ks k) := hs
      clear hs
      obtain ⟨t, ht⟩ : ∃ s, s = vs k := ⟨_, rfl⟩
      rw [← ht] at c3 c4
      have ET : Hid (t = vs k) := ht
      clear ht
      go_wp2
      go_loop [15, 17] (fun s' i => ∃ (j : Nat) (y : Int), j ≤ 2 ∧ i = .int .i64 j ∧ s' = .int .i64 y ∧ 0 ≤ y ∧ y ≤ 1048576 ∧ Hid ((0 < j → s.size ≤ 1048576) ∧ (1 < j → t.size ≤ 1048576))) (fun _ i => 2 - (intOf i).toNat)
      case atStart => exact ⟨0, _, by omega, rfl, rfl, hy0, hy1, fun h => by omega, fun h => by omega⟩
      case round =>
        obtain ⟨j, y1, hj, rfl, rfl, hy2, hy3, HJ⟩ := hrel
        by_cases hj2 : j < 2
        · obtain ⟨u, cu, cz, CU⟩ : ∃ u : ByteArray, w.cell? ⟨bl, ol + k * 2 + j, none⟩ = some (.string u) ∧ u.size ≤ 9223372036854775807 ∧ Hid (u.size ≤ 1048576 → (0 < j + 1 → s.size ≤ 1048576) ∧ (1 < j + 1 → t.size ≤ 1048576)) := by
            by_cases e : j = 0
            · subst e; exact ⟨s, c1, c2, fun h => ⟨fun _ => h, fun h' => by omega⟩⟩
            · obtain rfl : j = 1 := by omega
              exact ⟨t, c3, c4, fun h => ⟨fun _ => HJ.out.1 (by omega), fun _ => h⟩⟩
          clear c1 c3 c2 c4
          by_cases q1 : u.size ≤ 1048576
          · by_cases q2 : y1 + u.size ≤ 1048576
            · go_wp2
              go_round
              case rel => exact ⟨j + 1, _, by omega, by go_num, rfl, by omega, by omega, CU.out q1⟩
              case measure => simp [intOf]; omega
            · go_wp2
              go_ret
              exact ZEnd.no
          · go_wp2
            go_ret
            exact ZEnd.no
        · clear c1 c3 c2 c4
          go_wp2
          go_round
          case rel =>
            refine ⟨k + 1, _, by omega, by go_num, rfl, hy2, hy3, fun t' ht' => ?_⟩
            by_cases e : t' = k
            · subst e; rw [← ES.out, ← ET.out]; exact ⟨HJ.out.1 (by omega), HJ.out.2 (by omega)⟩
            · exact HK.out t' (by omega)
          case measure => simp [intOf]; omega
    · have HKL : Hid (∀ k, k < nl → (ks k).size ≤ 1048576 ∧ (vs k).size ≤ 1048576) := fun t ht => HK.out t (by omega)
      clear HK
      by_cases p3 : nt ≤ 1048576
      case neg =>
        go_wp2
        go_ret
        exact ZEnd.no
      by_cases p4 : y0 + nt ≤ 1048576
      case neg =>
        go_wp2
        go_ret
        exact ZEnd.no
      go_wp2
      go_loop [15, 18] (fun s i => ∃ (k : Nat) (y' : Int), k ≤ nt ∧ i = .int .i64 k ∧ s = .int .i64 y' ∧ 0 ≤ y' ∧ y' ≤ 1048576 ∧ Hid (∀ t, t < k → (x t).size ≤ 1048576 ∧ (y t).size ≤ 1048576 ∧ (z t).size ≤ 1048576)) (fun _ i => nt - (intOf i).toNat)
      case atStart => exact ⟨0, _, Nat.zero_le _, rfl, rfl, by omega, by omega, fun t ht => by omega⟩
      case round =>
        obtain ⟨k3, y3, hk3, rfl, rfl, hy4, hy5, HK3⟩ := hrel
        by_cases hlt3 : k3 < nt
        · have i1 := HT.out.1 k3 hlt3
          obtain ⟨_, c1, c2, c3, c4, c5, c6⟩ := HT.out.2 k3 hlt3
          obtain ⟨s, hs⟩ : ∃ s, s = x k3 := ⟨_, rfl⟩
          rw [← hs] at c1 c4
          have ES : Hid (s = x k3) := hs
          clear hs
          obtain ⟨t, ht⟩ : ∃ s, s = y k3 := ⟨_, rfl⟩
          rw [← ht] at c2 c5
          have ET : Hid (t = y k3) := ht
          clear ht
          obtain ⟨u, hu⟩ : ∃ s, s = z k3 := ⟨_, rfl⟩
          rw [← hu] at c3 c6
          have EU : Hid (u = z k3) := hu
          clear hu
          by_cases q1 : s.size ≤ 1048576
          case neg =>
            go_wp2
            go_ret
            exact ZEnd.no
          by_cases q2 : y3 + s.size ≤ 1048576
          case neg =>
            go_wp2
            go_ret
            exact ZEnd.no
          by_cases q3 : t.size ≤ 1048576
          case neg =>
            go_wp2
            go_ret
            exact ZEnd.no
          by_cases q4 : y3 + s.size + t.size ≤ 1048576
          case neg =>
            go_wp2
            go_ret
            exact ZEnd.no
          by_cases q5 : u.size ≤ 1048576
          case neg =>
            go_wp2
            go_ret
            exact ZEnd.no
          by_cases q6 : y3 + s.size + t.size + u.size ≤ 1048576
          case neg =>
            go_wp2
            go_ret
            exact ZEnd.no
          go_wp2
          go_round
          case rel =>
            refine ⟨k3 + 1, _, by omega, by go_num, rfl, by omega, by omega, fun t' ht' => ?_⟩
            by_cases e : t' = k3
            · subst e; rw [← ES.out, ← ET.out, ← EU.out]; exact ⟨q1, q3, q5⟩
            · exact HK3.out t' (by omega)
          case measure => simp [intOf]; omega
        · have HKT : Hid (∀ k, k < nt → (x k).size ≤ 1048576 ∧ (y k).size ≤ 1048576 ∧ (z k).size ≤ 1048576) := fun t ht => HK3.out t (by omega)
          clear HK3
          by_cases p5 : na ≤ 1048576
          case neg =>
            go_wp2
            go_ret
            exact ZEnd.no
          by_cases p6 : y3 + na ≤ 1048576
          case neg =>
            go_wp2
            go_ret
            exact ZEnd.no
          go_wp2
          go_loop [15, 19] (fun s i => ∃ (k : Nat) (y' : Int), k ≤ na ∧ i = .int .i64 k ∧ s = .int .i64 y' ∧ 0 ≤ y' ∧ y' ≤ 1048576 ∧ Hid (∀ t, t < k → (nm t).size ≤ 1048576)) (fun _ i => na - (intOf i).toNat)
          case atStart => exact ⟨0, _, Nat.zero_le _, rfl, rfl, by omega, by omega, fun t ht => by omega⟩
          case round =>
            obtain ⟨k4, y4, hk4, rfl, rfl, hy6, hy7, HK4⟩ := hrel
            by_cases hlt4 : k4 < na
            · have i1 := HA.out.1 k4 hlt4
              obtain ⟨_, c1, _, c4, _⟩ := HA.out.2 k4 hlt4
              obtain ⟨s, hs⟩ : ∃ s, s = nm k4 := ⟨_, rfl⟩
              rw [← hs] at c1 c4
              have ES : Hid (s = nm k4) := hs
              clear hs
              by_cases q1 : s.size ≤ 1048576
              case neg =>
                go_wp2
                go_ret
                exact ZEnd.no
              by_cases q2 : y4 + s.size ≤ 1048576
              case neg =>
                go_wp2
                go_ret
                exact ZEnd.no
              go_wp2
              go_round
              case rel =>
                refine ⟨k4 + 1, _, by omega, by go_num, rfl, by omega, by omega, fun t' ht' => ?_⟩
                by_cases e : t' = k4
                · subst e; rw [← ES.out]; exact q1
                · exact HK4.out t' (by omega)
              case measure => simp [intOf]; omega
            · have HKA : Hid (∀ k, k < na → (nm k).size ≤ 1048576) := fun t ht => HK4.out t (by omega)
              clear HK4
              by_cases q1 : s1.size ≤ 1048576
              case neg =>
                go_wp2
                go_ret
                exact ZEnd.no
              by_cases q2 : y4 + s1.size ≤ 1048576
              case neg =>
                go_wp2
                go_ret
                exact ZEnd.no
              by_cases q3 : s2.size ≤ 1048576
              case neg =>
                go_wp2
                go_ret
                exact ZEnd.no
              by_cases q4 : y4 + s1.size + s2.size ≤ 1048576
              case neg =>
                go_wp2
                go_ret
                exact ZEnd.no
              go_wp2
              go_ret
              exact ⟨true, rfl, rfl, fun _ => ⟨p0, q1, q3, p1, p3, p5, HKL.out, HKT.out, HKA.out⟩⟩
end Go.Proofs.Qxb6608834a
