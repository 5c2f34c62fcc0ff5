import Derived.Test.Qxb6608834aRows
import Derived.WalkKit
import Derived.WalkSpells
import Derived.WalkLawsBesides
import Derived.Deep.QuietTactic
import Derived.BigQuiet
namespace Go.Proofs.Qxb6608834a
open Go.RowKit

/-- Where a slice's elements lie: element k of a slice of n at ⟨b, off + k * size, none⟩ (of an empty slice nothing is said). -/
def Idx (t : TypeId) (a : Option Addr) (n c b off size : Nat) : Prop :=
  ∀ k : Nat, k < n → ∀ wx : World, (Instr.indexAt t (.slice a n c) (.int .i64 (k : Int))).run Try.prog wx = .ok (.pointer (some ⟨b, off + k * size, none⟩)) wx

/-- The amounts as they came in. -/
def ArgA (w : World) (a : Option Addr) (n c b off : Nat) (nm : Nat → ByteArray) (am : Nat → Int) : Prop :=
  Idx 60 a n c b off 2 ∧ ∀ k, k < n → b < w.heap.size ∧ w.cell? ⟨b, off + k * 2, none⟩ = some (.string (nm k)) ∧ w.cell? ⟨b, off + k * 2 + 1, none⟩ = some (.int .i64 (am k)) ∧ (nm k).size ≤ 9223372036854775807 ∧ (Lit.int .i64 (am k)).wf = true

/-- The labels as they came in. -/
def ArgL (w : World) (a : Option Addr) (n c b off : Nat) (ks vs : Nat → ByteArray) : Prop :=
  Idx 59 a n c b off 2 ∧ ∀ k, k < n → b < w.heap.size ∧ w.cell? ⟨b, off + k * 2, none⟩ = some (.string (ks k)) ∧ w.cell? ⟨b, off + k * 2 + 1, none⟩ = some (.string (vs k)) ∧ (ks k).size ≤ 9223372036854775807 ∧ (vs k).size ≤ 9223372036854775807

/-- The taints as they came in. -/
def ArgT (w : World) (a : Option Addr) (n c b off : Nat) (x y z : Nat → ByteArray) : Prop :=
  Idx 32 a n c b off 3 ∧ ∀ k, k < n → b < w.heap.size ∧ w.cell? ⟨b, off + k * 3, none⟩ = some (.string (x k)) ∧ w.cell? ⟨b, off + k * 3 + 1, none⟩ = some (.string (y k)) ∧ w.cell? ⟨b, off + k * 3 + 2, none⟩ = some (.string (z k)) ∧
    (x k).size ≤ 9223372036854775807 ∧ (y k).size ≤ 9223372036854775807 ∧ (z k).size ≤ 9223372036854775807

theorem ArgA.below {W w : World} {a : Option Addr} {n c b off : Nat} {nm : Nat → ByteArray} {am : Nat → Int} (h : ArgA W a n c b off nm am) (hb : Below W.heap.size W w) : ArgA w a n c b off nm am :=
  ⟨h.1, fun k hk => by
    obtain ⟨h1, h2, h3, h4, h5⟩ := h.2 k hk
    exact ⟨by have := hb.size; omega, (hb.cell (p := ⟨b, _, none⟩) h1).trans h2, (hb.cell (p := ⟨b, _, none⟩) h1).trans h3, h4, h5⟩⟩
theorem ArgL.below {W w : World} {a : Option Addr} {n c b off : Nat} {ks vs : Nat → ByteArray} (h : ArgL W a n c b off ks vs) (hb : Below W.heap.size W w) : ArgL w a n c b off ks vs :=
  ⟨h.1, fun k hk => by
    obtain ⟨h1, h2, h3, h4, h5⟩ := h.2 k hk
    exact ⟨by have := hb.size; omega, (hb.cell (p := ⟨b, _, none⟩) h1).trans h2, (hb.cell (p := ⟨b, _, none⟩) h1).trans h3, h4, h5⟩⟩
theorem ArgT.below {W w : World} {a : Option Addr} {n c b off : Nat} {x y z : Nat → ByteArray} (h : ArgT W a n c b off x y z) (hb : Below W.heap.size W w) : ArgT w a n c b off x y z :=
  ⟨h.1, fun k hk => by
    obtain ⟨h1, h2, h3, h4, h5⟩ := h.2 k hk
    exact ⟨by have := hb.size; omega, (hb.cell (p := ⟨b, _, none⟩) h1).trans h2, (hb.cell (p := ⟨b, _, none⟩) h1).trans h3, (hb.cell (p := ⟨b, _, none⟩) h1).trans h4, h5⟩⟩

/-- What a byte count leaves. -/
def CountEnd (w : World) (e : Ending) (w' : World) : Prop := ∃ m : Int, e = .returned (.int .i64 m) ∧ 0 ≤ m ∧ ∃ nq, w' = w.drewN nq

set_option maxHeartbeats 400000 in
theorem amountBytes_any (w : World) (a : Option Addr) (n c b off : Nat) (nm : Nat → ByteArray) (am : Nat → Int) (h : ArgA w a n c b off nm am) (z : Int) (hz0 : 0 ≤ z) (hz1 : z ≤ 1048576) (hn : n ≤ 1048576) (hs : ∀ k, k < n → (nm k).size ≤ 1048576) :
    Calls Try.prog 26 #[.int .i64 z, .slice a n c] w fun e w' => CountEnd w e w' := by
  have H : Hid (ArgA w a n c b off nm am) := h
  have HS : Hid (∀ k, k < n → (nm k).size ≤ 1048576) := hs
  clear h hs
  go_enter Try.func26, Try.ntmps26
  go_wp2
  go_loop [0, 5] (fun s i => ∃ (k : Nat) (y : Int), k ≤ n ∧ i = .int .i64 k ∧ s = .int .i64 y ∧ 0 ≤ y ∧ y ≤ 1048576) (fun _ i => n - (intOf i).toNat)
  case atStart => exact ⟨0, z, Nat.zero_le _, rfl, rfl, hz0, hz1⟩
  case round =>
    obtain ⟨k, y, hk, rfl, rfl, hy0, hy1⟩ := hrel
    by_cases hlt : k < n
    · have i1 := H.out.1 k hlt
      have c1 := (H.out.2 k hlt).2.1
      have c2 := HS.out k hlt
      obtain ⟨s, hs⟩ : ∃ s, s = nm k := ⟨_, rfl⟩
      rw [← hs] at c1 c2
      clear hs
      by_cases h2 : y + 24 + s.size ≤ 1048576
      · go_wp2
        go_round
        case rel => exact ⟨k + 1, _, by omega, by go_num, rfl, by omega, by omega⟩
        case measure => simp [intOf]; omega
      · go_wp2
        go_ret
        exact ⟨_, rfl, by omega, 0, rfl⟩
    · go_wp2
      go_ret
      exact ⟨_, rfl, hy0, 0, rfl⟩

set_option maxHeartbeats 400000 in
theorem labelBytes_any (w : World) (a : Option Addr) (n c b off : Nat) (ks vs : Nat → ByteArray) (h : ArgL w a n c b off ks vs) (z : Int) (hz0 : 0 ≤ z) (hz1 : z ≤ 1048576) (hn : n ≤ 1048576) (hs : ∀ k, k < n → (ks k).size ≤ 1048576 ∧ (vs k).size ≤ 1048576) :
    Calls Try.prog 25 #[.int .i64 z, .slice a n c] w fun e w' => CountEnd w e w' := by
  have H : Hid (ArgL w a n c b off ks vs) := h
  have HS : Hid (∀ k, k < n → (ks k).size ≤ 1048576 ∧ (vs k).size ≤ 1048576) := hs
  clear h hs
  go_enter Try.func25, Try.ntmps25
  go_wp2
  go_loopw [0, 5] (fun s i wr => ∃ (k : Nat) (y : Int), k ≤ n ∧ i = .int .i64 k ∧ s = .int .i64 y ∧ 0 ≤ y ∧ y ≤ 1048576 ∧ ∃ nq, wr = w.drewN nq) (fun _ i _ => n - (intOf i).toNat)
  case atStart => exact ⟨0, z, Nat.zero_le _, rfl, rfl, hz0, hz1, 0, rfl⟩
  case round =>
    obtain ⟨k, y, hk, rfl, rfl, hy0, hy1, nq, rfl⟩ := hrel
    by_cases hlt : k < n
    · have i1 := H.out.1 k hlt
      have c1 := (H.out.2 k hlt).2.1
      have c3 := (H.out.2 k hlt).2.2.1
      obtain ⟨c2, c4⟩ := HS.out k hlt
      obtain ⟨s, hs⟩ : ∃ s, s = ks k := ⟨_, rfl⟩
      rw [← hs] at c1 c2
      clear hs
      obtain ⟨t, ht⟩ : ∃ s, s = vs k := ⟨_, rfl⟩
      rw [← ht] at c3 c4
      clear ht
      by_cases h2 : y + 32 + s.size + t.size ≤ 1048576
      · go_wp2
        go_quiet (fail)
        go_wp2
        go_roundw
        case rel => exact ⟨k + 1, _, by omega, by go_num, rfl, by omega, by omega, _, rfl⟩
        case measure => simp [intOf]; omega
      · go_wp2
        go_quiet (fail)
        go_wp2
        go_ret
        exact ⟨_, rfl, by omega, _, rfl⟩
    · go_wp2
      go_ret
      exact ⟨_, rfl, hy0, _, rfl⟩

set_option maxHeartbeats 400000 in
theorem taintBytes_any (w : World) (a : Option Addr) (n c b off : Nat) (x y z : Nat → ByteArray) (h : ArgT w a n c b off x y z) (z0 : Int) (hz0 : 0 ≤ z0) (hz1 : z0 ≤ 1048576) (hn : n ≤ 1048576) (hs : ∀ k, k < n → (x k).size ≤ 1048576 ∧ (y k).size ≤ 1048576 ∧ (z k).size ≤ 1048576) :
    Calls Try.prog 18 #[.int .i64 z0, .slice a n c] w fun e w' => CountEnd w e w' := by
  have H : Hid (ArgT w a n c b off x y z) := h
  have HS : Hid (∀ k, k < n → (x k).size ≤ 1048576 ∧ (y k).size ≤ 1048576 ∧ (z k).size ≤ 1048576) := hs
  clear h hs
  go_enter Try.func18, Try.ntmps18
  go_wp2
  go_loopw [0, 5] (fun s i wr => ∃ (k : Nat) (y : Int), k ≤ n ∧ i = .int .i64 k ∧ s = .int .i64 y ∧ 0 ≤ y ∧ y ≤ 1048576 ∧ ∃ nq, wr = w.drewN nq) (fun _ i _ => n - (intOf i).toNat)
  case atStart => exact ⟨0, z0, Nat.zero_le _, rfl, rfl, hz0, hz1, 0, rfl⟩
  case round =>
    obtain ⟨k, y0, hk, rfl, rfl, hy0, hy1, nq, rfl⟩ := hrel
    by_cases hlt : k < n
    · have i1 := H.out.1 k hlt
      have c1 := (H.out.2 k hlt).2.1
      have c3 := (H.out.2 k hlt).2.2.1
      have c5 := (H.out.2 k hlt).2.2.2.1
      obtain ⟨c2, c4, c6⟩ := HS.out k hlt
      obtain ⟨s, hs⟩ : ∃ s, s = x k := ⟨_, rfl⟩
      rw [← hs] at c1 c2
      clear hs
      obtain ⟨t, ht⟩ : ∃ s, s = y k := ⟨_, rfl⟩
      rw [← ht] at c3 c4
      clear ht
      obtain ⟨u, hu⟩ : ∃ s, s = z k := ⟨_, rfl⟩
      rw [← hu] at c5 c6
      clear hu
      by_cases h2 : y0 + 48 + s.size + t.size + u.size ≤ 1048576
      · go_wp2
        go_quiet (fail)
        go_wp2
        go_roundw
        case rel => exact ⟨k + 1, _, by omega, by go_num, rfl, by omega, by omega, _, rfl⟩
        case measure => simp [intOf]; omega
      · go_wp2
        go_quiet (fail)
        go_wp2
        go_ret
        exact ⟨_, rfl, by omega, _, rfl⟩
    · go_wp2
      go_ret
      exact ⟨_, rfl, hy0, _, rfl⟩
end Go.Proofs.Qxb6608834a
