import Derived.Test.Qxb6605996aWalkB
namespace Go.Proofs.Qxb6605996a
open Go.RowKit

set_option maxHeartbeats 1000000 in
theorem less_any (a c : ByteArray) (w : World) :
    Calls Try.prog 17 #[.agg #[.int .u64 0, .int .i64 0, .pointer none, .string a], .agg #[.int .u64 0, .int .i64 0, .pointer none, .string c]] w fun e w' =>
      e = .returned (.bool (Op.bytesLess a.toList c.toList)) ∧ ∃ c1 c2 c3 c4 c5 c6 : Array Value, w' = (((((w.alloc (.cells c1 38)).alloc (.cells c2 38)).alloc (.cells c3 34)).alloc (.cells c4 34)).alloc (.cells c5 34)).alloc (.cells c6 34) := by
  go_enter Try.func17, Try.ntmps17
  go_wp2_with (go_at_call 22; refine (before_any _).mono ?_; rintro e w' ⟨rfl, rfl⟩)
  go_ret
  exact ⟨rfl, _, _, _, _, _, _, rfl⟩

set_option maxHeartbeats 1000000 in
theorem order_yes (a b c d : ByteArray) (i j : Int) (p q : Bool) (w : World) (h : a.size + b.size + c.size + d.size ≤ 1048576) :
    Calls Try.prog 6 #[.string a, .string b, .int .i64 i, .bool p, .string c, .string d, .int .i64 j, .bool q] w fun e w' => e = .returned (.bool true) ∧ Grown w w' := by
  go_enter Try.func6, Try.ntmps6
  go_wp2_with (first | (go_at_call 16; refine (bytes2_yes a b c d i j p q w h).mono ?_; rintro e w' ⟨rfl, rfl⟩) | (go_at_call 14; refine (place_any _ _ _ _ _).mono ?_; rintro e w' ⟨rfl, rfl⟩) | (go_at_call 17; refine (less_any _ _ _).mono ?_; rintro e w' ⟨rfl, c1, c2, c3, c4, c5, c6, rfl⟩))
  go_ret
  refine ⟨rfl, ?_⟩
  repeat (refine Grown.alloc ?_ _ _)
  exact Grown.refl _

set_option maxHeartbeats 400000 in
theorem order_no (a b c d : ByteArray) (i j : Int) (p q : Bool) (w : World) (ha : a.size ≤ maxLen) (hb : b.size ≤ maxLen) (hc : c.size ≤ maxLen) (hd : d.size ≤ maxLen) (h : 1048576 < a.size + b.size + c.size + d.size) :
    Calls Try.prog 6 #[.string a, .string b, .int .i64 i, .bool p, .string c, .string d, .int .i64 j, .bool q] w fun e w' => e = .returned (.bool true) ∧ Grown w w' := by
  go_enter Try.func6, Try.ntmps6
  go_wp2_with (go_at_call 16; refine (bytes2_no a b c d i j p q w ha hb hc hd h).mono ?_; rintro e w' ⟨rfl, rfl⟩)
  go_ret
  exact ⟨rfl, Grown.refl _⟩

theorem order_any (a b c d : ByteArray) (i j : Int) (p q : Bool) (w : World) (ha : a.size ≤ maxLen) (hb : b.size ≤ maxLen) (hc : c.size ≤ maxLen) (hd : d.size ≤ maxLen) :
    Calls Try.prog 6 #[.string a, .string b, .int .i64 i, .bool p, .string c, .string d, .int .i64 j, .bool q] w fun e w' => e = .returned (.bool true) ∧ Grown w w' := by
  by_cases h : a.size + b.size + c.size + d.size ≤ 1048576
  · exact order_yes a b c d i j p q w h
  · exact order_no a b c d i j p q w ha hb hc hd (by omega)
end Go.Proofs.Qxb6605996a
