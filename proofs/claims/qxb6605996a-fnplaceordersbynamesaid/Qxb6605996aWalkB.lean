import Derived.Test.Qxb6605996aWalkA
namespace Go.Proofs.Qxb6605996a
open Go.RowKit

set_option maxHeartbeats 400000 in
theorem place_any (n r : ByteArray) (i : Int) (p : Bool) (w : World) :
    Calls Try.prog 14 #[.agg #[.string n, .string r, .int .i64 i, .bool p, .int .u64 0, .int .i64 0, .pointer none, .int .u64 0, .int .i64 0, .pointer none]] w fun e w' =>
      e = .returned (.agg #[.int .u64 0, .int .i64 0, .pointer none, .string n]) ∧
      w' = (w.alloc (.cells #[.string n, .string r, .int .i64 i, .bool p, .int .u64 0, .int .i64 0, .pointer none, .int .u64 0, .int .i64 0, .pointer none] 36)).alloc (.cells #[.int .u64 0, .int .i64 0, .pointer none, .string n] 38) := by
  go_enter Try.func14, Try.ntmps14
  go_wp2
  exact bodyPost_ret (v := .agg #[.int .u64 0, .int .i64 0, .pointer none, .string n]) (by simp [results, Try.results14, go_sem]) rfl ⟨rfl, rfl⟩

set_option maxHeartbeats 400000 in
theorem equal_any (w : World) :
    Calls Try.prog 15 #[.agg #[.int .u64 0, .int .i64 0, .pointer none], .agg #[.int .u64 0, .int .i64 0, .pointer none]] w fun e w' =>
      e = .returned (.bool true) ∧ w' = (w.alloc (.cells #[.int .u64 0, .int .i64 0, .pointer none] 34)).alloc (.cells #[.int .u64 0, .int .i64 0, .pointer none] 34) := by
  go_enter Try.func15, Try.ntmps15
  go_wp2
  go_ret
  exact ⟨rfl, rfl⟩

set_option maxHeartbeats 400000 in
theorem before_any (w : World) :
    Calls Try.prog 22 #[.agg #[.int .u64 0, .int .i64 0, .pointer none], .agg #[.int .u64 0, .int .i64 0, .pointer none]] w fun e w' =>
      e = .returned (.bool false) ∧ w' = (w.alloc (.cells #[.int .u64 0, .int .i64 0, .pointer none] 34)).alloc (.cells #[.int .u64 0, .int .i64 0, .pointer none] 34) := by
  go_enter Try.func22, Try.ntmps22
  go_wp2
  go_ret
  exact ⟨rfl, rfl⟩
end Go.Proofs.Qxb6605996a
