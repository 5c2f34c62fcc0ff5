import Derived.Test.Qxb6605996aWalkB
namespace Go.Proofs.Qxb6605996a
open Go.RowKit

set_option maxHeartbeats 1000000 in
theorem same_diff (a b c d : ByteArray) (i j : Int) (p q : Bool) (w : World) (h : a.size + b.size + c.size + d.size ≤ 1048576) (he : (a.toList == c.toList) = false) :
    Calls Try.prog 5 #[.string a, .string b, .int .i64 i, .bool p, .string c, .string d, .int .i64 j, .bool q] w fun e w' => e = .returned (.bool true) ∧ Grown w w' := by
  go_enter Try.func5, Try.ntmps5
  go_wp2_with (first | (go_at_call 13; refine (bytes_yes a b c d i j p q w h).mono ?_; rintro e w' ⟨rfl, rfl⟩) | (go_at_call 14; refine (place_any _ _ _ _ _).mono ?_; rintro e w' ⟨rfl, rfl⟩))
  go_ret
  refine ⟨rfl, ?_⟩
  repeat (refine Grown.alloc ?_ _ _)
  exact Grown.refl _

set_option maxHeartbeats 1000000 in
theorem same_eq (a b c d : ByteArray) (i j : Int) (p q : Bool) (w : World) (h : a.size + b.size + c.size + d.size ≤ 1048576) (he : (a.toList == c.toList) = true) :
    Calls Try.prog 5 #[.string a, .string b, .int .i64 i, .bool p, .string c, .string d, .int .i64 j, .bool q] w fun e w' => e = .returned (.bool true) ∧ Grown w w' := by
  go_enter Try.func5, Try.ntmps5
  go_wp2_with (first | (go_at_call 13; refine (bytes_yes a b c d i j p q w h).mono ?_; rintro e w' ⟨rfl, rfl⟩) | (go_at_call 14; refine (place_any _ _ _ _ _).mono ?_; rintro e w' ⟨rfl, rfl⟩) | (go_at_call 15; refine (equal_any _).mono ?_; rintro e w' ⟨rfl, rfl⟩))
  go_ret
  refine ⟨rfl, ?_⟩
  repeat (refine Grown.alloc ?_ _ _)
  exact Grown.refl _

set_option maxHeartbeats 400000 in
theorem same_no (a b c d : ByteArray) (i j : Int) (p q : Bool) (w : World) (ha : a.size ≤ maxLen) (hb : b.size ≤ maxLen) (hc : c.size ≤ maxLen) (hd : d.size ≤ maxLen) (h : 1048576 < a.size + b.size + c.size + d.size) :
    Calls Try.prog 5 #[.string a, .string b, .int .i64 i, .bool p, .string c, .string d, .int .i64 j, .bool q] w fun e w' => e = .returned (.bool true) ∧ Grown w w' := by
  go_enter Try.func5, Try.ntmps5
  go_wp2_with (go_at_call 13; refine (bytes_no a b c d i j p q w ha hb hc hd h).mono ?_; rintro e w' ⟨rfl, rfl⟩)
  go_ret
  exact ⟨rfl, Grown.refl _⟩

theorem same_any (a b c d : ByteArray) (i j : Int) (p q : Bool) (w : World) (ha : a.size ≤ maxLen) (hb : b.size ≤ maxLen) (hc : c.size ≤ maxLen) (hd : d.size ≤ maxLen) :
    Calls Try.prog 5 #[.string a, .string b, .int .i64 i, .bool p, .string c, .string d, .int .i64 j, .bool q] w fun e w' => e = .returned (.bool true) ∧ Grown w w' := by
  by_cases h : a.size + b.size + c.size + d.size ≤ 1048576
  · cases he : (a.toList == c.toList) with
    | true => exact same_eq a b c d i j p q w h he
    | false => exact same_diff a b c d i j p q w h he
  · exact same_no a b c d i j p q w ha hb hc hd (by omega)
end Go.Proofs.Qxb6605996a
