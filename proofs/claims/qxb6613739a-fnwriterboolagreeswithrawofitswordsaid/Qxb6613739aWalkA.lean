import Derived.Test.Qxb6613739aRows
import Derived.Test.Qxb6613739aApp
import Derived.WalkKit
import Derived.WalkSpells
import Derived.WalkLawsBesides
namespace Go.Proofs.Qxb6613739a
open Go.RowKit

theorem info5 : (Try.prog.info? 5).map (fun i => (i.zero, i.size, i.bytes)) = some (some (.int .u8 0), 1, 1) := by kernel_rfl

set_option maxHeartbeats 400000 in
theorem newWriter_any (w : World) :
    Calls Try.prog 8 #[.int .i64 0] w fun e w' => e = .returned (.pointer (some ⟨w.heap.size + 1, 0, none⟩)) ∧
      w' = (w.alloc (.cells #[] 5)).alloc (.cells #[.slice (some ⟨w.heap.size, 0, none⟩) 0 0, .bool false, .nilIface] 50) := by
  have hmk : ∀ w, (Instr.makeSlice 27 (.int .i64 0) (.int .i64 0)).run Try.prog w = .ok (.slice (some ⟨w.heap.size, 0, none⟩) 0 0) (w.alloc (.cells #[] 5)) := fun _ => by kernel_rfl
  go_enter Try.func8, Try.ntmps8
  go_wp2
  go_ret
  exact ⟨rfl, rfl⟩

theorem word_t (w : World) : Calls Try.prog 10 #[.bool true] w fun e w' => e = .returned (.string "true".toByteArray) ∧ w' = w := by
  go_enter Try.func10, Try.ntmps10
  go_wp2
  go_ret
  exact ⟨rfl, rfl⟩

theorem word_f (w : World) : Calls Try.prog 10 #[.bool false] w fun e w' => e = .returned (.string "false".toByteArray) ∧ w' = w := by
  go_enter Try.func10, Try.ntmps10
  go_wp2
  go_ret
  exact ⟨rfl, rfl⟩

set_option maxHeartbeats 400000 in
theorem bytes_any (a : Option Addr) (len cap : Nat) (b1 b2 : Bool) (w : World) (hl : len ≤ 9223372036854775807) :
    Calls Try.prog 15 #[.slice a len cap, .bool b1, .bool b2] w fun e w' => e = .returned (.bool (decide (len ≤ 1048576))) ∧ w' = w := by
  by_cases h : len ≤ 1048576
  · go_enter Try.func15, Try.ntmps15
    go_wp2
    go_ret
    exact ⟨by simp [h], rfl⟩
  · go_enter Try.func15, Try.ntmps15
    go_wp2
    go_ret
    exact ⟨by simp [h], rfl⟩
end Go.Proofs.Qxb6613739a
