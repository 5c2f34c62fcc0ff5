import Derived.Test.Qxb6608834aMapsA
import Derived.Test.Qxb6608834aNode
namespace Go.Proofs.Qxb6608834a
open Go.RowKit Go.Maps

theorem neq56 (s t u : ByteArray) (w : World) : (binOp .neq 56 (.agg #[.string s, .string t, .string u]) (.agg #[.string s, .string t, .string u])).run Try.prog w = .ok (.bool false) w := by
  have hS : Try.prog.underlying 56 = some (.struct (Try.prog.fieldsOf 56)) := by kernel_rfl
  have hp : Try.prog.stoodInHeld 56 = false := by kernel_rfl
  rw [run_neq_struct, show (10000 : Nat) = 9999 + 1 from rfl, run_equalIn_agg w 9999 56 _ _ hS hp]
  simp only [Program.fieldsOf, Try.underlying56]
  go_simp

/-- Two maps that read alike, of strings: what the walk asks of them. -/
structure SameS (w : World) (r1 r3 : Option Nat) (n : Nat) (ks : Nat → ByteArray) : Prop where
  nil : r1.isNone = r3.isNone
  len : ∃ z : Nat, ∀ wx : World, wx.heap = w.heap → ∀ ty, (Builtin.len_ #[38] ty #[.map r1]).run Try.prog wx = .ok (.int .i64 (z : Int)) wx ∧ (Builtin.len_ #[38] ty #[.map r3]).run Try.prog wx = .ok (.int .i64 (z : Int)) wx
  look : ∀ k, k < n → ∃ v : ByteArray, ∀ wx : World, wx.heap = w.heap → (Instr.lookup 38 (.map r1) (.string (ks k)) true).run Try.prog wx = .ok (.tuple #[.string v, .bool true]) wx ∧ (Instr.lookup 38 (.map r3) (.string (ks k)) false).run Try.prog wx = .ok (.string v) wx

/-- The same, of amounts. -/
structure SameI (w : World) (r1 r3 : Option Nat) (n : Nat) (ks : Nat → ByteArray) : Prop where
  nil : r1.isNone = r3.isNone
  len : ∃ z : Nat, ∀ wx : World, wx.heap = w.heap → ∀ ty, (Builtin.len_ #[40] ty #[.map r1]).run Try.prog wx = .ok (.int .i64 (z : Int)) wx ∧ (Builtin.len_ #[40] ty #[.map r3]).run Try.prog wx = .ok (.int .i64 (z : Int)) wx
  look : ∀ k, k < n → ∃ v : Int, ∀ wx : World, wx.heap = w.heap → (Instr.lookup 40 (.map r1) (.string (ks k)) true).run Try.prog wx = .ok (.tuple #[.int .i64 v, .bool true]) wx ∧ (Instr.lookup 40 (.map r3) (.string (ks k)) false).run Try.prog wx = .ok (.int .i64 v) wx

theorem zeroE9 (w : World) : (zeroValue 9).run Try.prog w = .ok (.string ByteArray.empty) w := by kernel_rfl
theorem zeroE2 (w : World) : (zeroValue 2).run Try.prog w = .ok (.int .i64 0) w := by kernel_rfl

theorem isMap_lab (ks vs : Nat → ByteArray) : ∀ n, IsMap (labD ks vs n)
  | 0 => isMap_empty
  | n + 1 => (isMap_lab ks vs n).put _ _
theorem isMap_amt (nm : Nat → ByteArray) (am : Nat → Int) : ∀ n, IsMap (amtD nm am n)
  | 0 => isMap_empty
  | n + 1 => (isMap_amt nm am n).put _ _

theorem has_lab (ks vs : Nat → ByteArray) : ∀ n k, k < n → Maps.has (labD ks vs n) (.string (ks k).data.toList) = true
  | 0, k, h => by omega
  | n + 1, k, h => by
    by_cases e : (Lit.string (ks k).data.toList) = .string (ks n).data.toList
    · rw [e]; exact has_put_same (isMap_lab ks vs n) (by trivial) _
    · rw [labD, has_put_other e]
      exact has_lab ks vs n k (by
        rcases Nat.lt_or_ge k n with h' | h'
        · exact h'
        · exact absurd (by rw [show k = n by omega]) e)

theorem has_amt (nm : Nat → ByteArray) (am : Nat → Int) : ∀ n k, k < n → Maps.has (amtD nm am n) (.string (nm k).data.toList) = true
  | 0, k, h => by omega
  | n + 1, k, h => by
    by_cases e : (Lit.string (nm k).data.toList) = .string (nm n).data.toList
    · rw [e]; exact has_put_same (isMap_amt nm am n) (by trivial) _
    · rw [amtD, has_put_other e]
      exact has_amt nm am n k (by
        rcases Nat.lt_or_ge k n with h' | h'
        · exact h'
        · exact absurd (by rw [show k = n by omega]) e)

theorem owns_heap {w wx : World} (hx : wx.heap = w.heap) {e b n : Nat} {D : DataW Unit} (h : w.ownsMap Try.prog 9 (plainElem Try.prog e) b n D) : wx.ownsMap Try.prog 9 (plainElem Try.prog e) b n D := by
  obtain ⟨es, clock, hb, r⟩ := h
  exact ⟨es, clock, by rw [hx]; exact hb, r⟩

theorem bytes_ext {s t : ByteArray} (h : s.data.toList = t.data.toList) : s = t := by
  obtain ⟨⟨l⟩⟩ := s
  obtain ⟨⟨l'⟩⟩ := t
  simp at h
  rw [h]

theorem SameS.of (w : World) (r1 r3 : Option Nat) (n : Nat) (ks vs : Nat → ByteArray) (hnil : r1.isNone = r3.isNone) (hz : r1 = none → n = 0) (hk : ∀ k, k < n → (ks k).size ≤ 9223372036854775807)
    (h1 : ∀ b, r1 = some b → w.ownsMap Try.prog 9 (plainElem Try.prog 9) b n (labD ks vs n)) (h3 : ∀ b, r3 = some b → w.ownsMap Try.prog 9 (plainElem Try.prog 9) b n (labD ks vs n)) : SameS w r1 r3 n ks := by
  cases r1 with
  | none =>
    cases r3 with
    | none =>
      obtain rfl := hz rfl
      exact ⟨rfl, ⟨0, fun wx _ ty => ⟨Maps.len_nil Try.underlying38 ty, Maps.len_nil Try.underlying38 ty⟩⟩, fun k hk => by omega⟩
    | some b => cases hnil
  | some b1 =>
    cases r3 with
    | none => cases hnil
    | some b3 =>
      have o1 := h1 b1 rfl
      have o3 := h3 b3 rfl
      refine ⟨rfl, ⟨Maps.size (labD ks vs n), fun wx hx ty => ⟨(owns_heap hx o1).len Try.underlying38 ty, (owns_heap hx o3).len Try.underlying38 ty⟩⟩, fun k hkn => ?_⟩
      have hkey := WideMaps.keyOf_string_mk (s := ks k) Try.underlying9 (by unfold maxLen; have := hk k hkn; omega)
      have hz9 := plainElem_string (H := Unit) (s := ByteArray.empty) Try.underlying9 (by unfold maxLen; decide)
      obtain ⟨v, ps, _, hv⟩ := o1.look_ok law Try.underlying38 (zeroE9 w) hz9 hkey
      obtain ⟨s, rfl, hs, _⟩ := plainElem_string_inv Try.underlying9 hv
      refine ⟨s, fun wx hx => ⟨?_, ?_⟩⟩
      · obtain ⟨v', ps', hr, hv'⟩ := (owns_heap hx o1).look_ok law Try.underlying38 (zeroE9 wx) hz9 hkey
        obtain ⟨s', rfl, hs', _⟩ := plainElem_string_inv Try.underlying9 hv'
        simp only [Prod.mk.injEq] at hs hs'
        have : s' = s := bytes_ext (by have := hs'.1.symm.trans hs.1; simpa using this)
        subst this
        rw [hr, has_lab ks vs n k hkn]
      · obtain ⟨v', ps', hr, hv'⟩ := (owns_heap hx o3).lookup law Try.underlying38 (zeroE9 wx) hz9 hkey
        obtain ⟨s', rfl, hs', _⟩ := plainElem_string_inv Try.underlying9 hv'
        simp only [Prod.mk.injEq] at hs hs'
        have : s' = s := bytes_ext (by have := hs'.1.symm.trans hs.1; simpa using this)
        subst this
        exact hr

theorem SameI.of (w : World) (r1 r3 : Option Nat) (n : Nat) (nm : Nat → ByteArray) (am : Nat → Int) (hnil : r1.isNone = r3.isNone) (hz : r1 = none → n = 0) (hk : ∀ k, k < n → (nm k).size ≤ 9223372036854775807)
    (h1 : ∀ b, r1 = some b → w.ownsMap Try.prog 9 (plainElem Try.prog 2) b n (amtD nm am n)) (h3 : ∀ b, r3 = some b → w.ownsMap Try.prog 9 (plainElem Try.prog 2) b n (amtD nm am n)) : SameI w r1 r3 n nm := by
  cases r1 with
  | none =>
    cases r3 with
    | none =>
      obtain rfl := hz rfl
      exact ⟨rfl, ⟨0, fun wx _ ty => ⟨Maps.len_nil Try.underlying40 ty, Maps.len_nil Try.underlying40 ty⟩⟩, fun k hk => by omega⟩
    | some b => cases hnil
  | some b1 =>
    cases r3 with
    | none => cases hnil
    | some b3 =>
      have o1 := h1 b1 rfl
      have o3 := h3 b3 rfl
      refine ⟨rfl, ⟨Maps.size (amtD nm am n), fun wx hx ty => ⟨(owns_heap hx o1).len Try.underlying40 ty, (owns_heap hx o3).len Try.underlying40 ty⟩⟩, fun k hkn => ?_⟩
      have hkey := WideMaps.keyOf_string_mk (s := nm k) Try.underlying9 (by unfold maxLen; have := hk k hkn; omega)
      have hz2 := plainElem_int (H := Unit) (a := 0) Try.underlying2 (by decide)
      obtain ⟨v, ps, _, hv⟩ := o1.look_ok law Try.underlying40 (zeroE2 w) hz2 hkey
      obtain ⟨s, rfl, hs, _⟩ := plainElem_int_inv Try.underlying2 hv
      refine ⟨s, fun wx hx => ⟨?_, ?_⟩⟩
      · obtain ⟨v', ps', hr, hv'⟩ := (owns_heap hx o1).look_ok law Try.underlying40 (zeroE2 wx) hz2 hkey
        obtain ⟨s', rfl, hs', _⟩ := plainElem_int_inv Try.underlying2 hv'
        simp only [Prod.mk.injEq] at hs hs'
        have : s' = s := by have := hs'.1.symm.trans hs.1; simpa using this
        subst this
        rw [hr, has_amt nm am n k hkn]
      · obtain ⟨v', ps', hr, hv'⟩ := (owns_heap hx o3).lookup law Try.underlying40 (zeroE2 wx) hz2 hkey
        obtain ⟨s', rfl, hs', _⟩ := plainElem_int_inv Try.underlying2 hv'
        simp only [Prod.mk.injEq] at hs hs'
        have : s' = s := by have := hs'.1.symm.trans hs.1; simpa using this
        subst this
        exact hr
end Go.Proofs.Qxb6608834a
