import Derived.Test.Qxb6613739aWalkD
import Derived.Deep.QuietTactic
import Derived.BigQuiet
namespace Go.Proofs.Qxb6613739a
open Go.RowKit

theorem buf_any (w : World) (p g cap : Nat) (xs : List Value) (more : Bool) (h : Wr w p g cap xs more) :
    Calls Try.prog 12 #[.pointer (some ⟨p, 0, none⟩)] w fun e w' => e = .returned (.slice (some ⟨g, 0, none⟩) xs.length cap) ∧ w' = w := by
  have h0 := h.cell0
  go_enter Try.func12, Try.ntmps12
  go_wp2
  go_ret
  exact ⟨rfl, rfl⟩

theorem more_any (w : World) (p g cap : Nat) (xs : List Value) (more : Bool) (h : Wr w p g cap xs more) :
    Calls Try.prog 13 #[.pointer (some ⟨p, 0, none⟩)] w fun e w' => e = .returned (.bool more) ∧ w' = w := by
  have h0 := h.cell1
  go_enter Try.func13, Try.ntmps13
  go_wp2
  go_ret
  exact ⟨rfl, rfl⟩

theorem err_any (w : World) (p g cap : Nat) (xs : List Value) (more : Bool) (h : Wr w p g cap xs more) :
    Calls Try.prog 14 #[.pointer (some ⟨p, 0, none⟩)] w fun e w' => e = .returned (.bool true) ∧ w' = w := by
  have h0 := h.cell2
  go_enter Try.func14, Try.ntmps14
  go_wp2
  go_ret
  exact ⟨rfl, rfl⟩

set_option maxHeartbeats 400000 in
theorem equal_any (w : World) (g1 c1 g2 c2 n : Nat) (zs : List Int) (hn : zs.length = n) (hm : n ≤ 4194304) (h1 : Has w 5 g1 c1 (zs.map (Value.int .u8))) (h2 : Has w 5 g2 c2 (zs.map (Value.int .u8))) :
    Calls Try.prog 11 #[.slice (some ⟨g1, 0, none⟩) n c1, .slice (some ⟨g2, 0, none⟩) n c2] w fun e w' => e = .returned (.bool true) ∧ ∃ nq, w' = w.drewN nq := by
  have cell1 : ∀ k, k < n → w.cell? ⟨g1, k, none⟩ = some (.int .u8 (zs.getD k 0)) := fun k hk => h1.cell k _ (by simp [hn, hk, List.getD])
  have cell2 : ∀ k, k < n → w.cell? ⟨g2, k, none⟩ = some (.int .u8 (zs.getD k 0)) := fun k hk => h2.cell k _ (by simp [hn, hk, List.getD])
  clear h1 h2
  have HN : Hid (zs.length = n) := hn
  clear hn
  go_enter Try.func11, Try.ntmps11
  go_wp2
  go_loopw [5] (fun i wr => ∃ k : Nat, k ≤ n ∧ i = .int .i64 k ∧ ∃ nq, wr = w.drewN nq) (fun i _ => n - (intOf i).toNat)
  case atStart => exact ⟨0, Nat.zero_le _, rfl, 0, rfl⟩
  case round =>
    obtain ⟨k, hk, rfl, nq, rfl⟩ := hrel
    by_cases hlt : k < n
    · have e1 := cell1 k hlt
      have e2 := cell2 k hlt
      obtain ⟨z, hz⟩ : ∃ z, z = zs.getD k 0 := ⟨_, rfl⟩
      rw [← hz] at e1 e2
      clear hz cell1 cell2
      go_wp2
      go_quiet (fail)
      go_wp2
      go_roundw
      case rel => exact ⟨k + 1, by omega, by go_num, _, rfl⟩
      case measure => simp [intOf]; omega
    · clear cell1 cell2
      go_wp2
      go_ret
      exact ⟨rfl, _, rfl⟩
end Go.Proofs.Qxb6613739a
