import Derived.Test.Qxb6608834aUnify
import Derived.LaidEqlPtr
namespace Go.Proofs.Qxb6608834a
open Go.RowKit Go.Maps

theorem below_grown {w w' : World} (h : Below w.heap.size w w') : w.grownBy w' none := ⟨h.os, h.tape, h.output, h.size, fun k hk _ => h.block k hk⟩

/-- A map made by the call: nil just where its slice is; else it reads as D. -/
def Mp (w : World) (a : Option Addr) (e n : Nat) (D : DataW Unit) (r : Option Nat) : Prop :=
  r.isNone = a.isNone ∧ ∀ b, r = some b → w.ownsMap Try.prog 9 (plainElem Try.prog e) b n D

theorem Mp.later {w w' : World} {a : Option Addr} {e n : Nat} {D : DataW Unit} {r : Option Nat} (h : Mp w a e n D r) (hb : Below w.heap.size w w') : Mp w' a e n D r :=
  ⟨h.1, fun b hr => (h.2 b hr).kept (below_grown hb) (by simp)⟩

theorem Holds.later {w w' : World} {va : Option Addr} {n g : Nat} {x y z : Nat → ByteArray} (h : Holds w va n g x y z) (hb : Below w.heap.size w w') : Holds w' va n g x y z := fun hn => by
  obtain ⟨h1, h2⟩ := h hn
  exact ⟨h1, h2.of_block (hb.block g h2.lt)⟩

theorem block_lt {w : World} {p : Nat} {o : Obj} (h : w.heap[p]? = some o) : p < w.heap.size := (Array.getElem?_eq_some_iff.1 h).1

/-- A set in block p, whole. -/
def SetAt (w : World) (p : Nat) (sn : ByteArray) (rp : Int) (r1 r2 : Option Nat) (tv : Value) : Prop :=
  w.heap[p]? = some (.cells #[.string sn, .int .i64 rp, .map r1, tv, .map r2] 42 (0, 0))

theorem SetAt.isSet {w : World} {p : Nat} {sn : ByteArray} {rp : Int} {r1 r2 : Option Nat} {tv : Value} (h : SetAt w p sn rp r1 r2 tv) : IsSet w p r1 r2 tv := by
  unfold SetAt at h
  exact ⟨by simp [World.cell?, h], by simp [World.cell?, h], by simp [World.cell?, h]⟩

theorem IsNode.later {w w' : World} {q : Nat} {name : ByteArray} {r1 r2 : Option Nat} {tv : Value} (h : IsNode w q name r1 r2 tv) (hb : Below w.heap.size w w') : IsNode w' q name r1 r2 tv := (hb.block q (block_lt h)).trans h
theorem SetAt.later {w w' : World} {p : Nat} {sn : ByteArray} {rp : Int} {r1 r2 : Option Nat} {tv : Value} (h : SetAt w p sn rp r1 r2 tv) (hb : Below w.heap.size w w') : SetAt w' p sn rp r1 r2 tv := (hb.block p (block_lt h)).trans h

theorem info47 : (Try.prog.info? 47).map (fun i => i.size) = some 7 := by kernel_rfl

theorem eql43 {w : World} {q1 q2 : Nat} {n1 n2 : ByteArray} {r1 r2 r3 r4 : Option Nat} {t1 t2 : Value} (h1 : IsNode w q1 n1 r1 r2 t1) (h2 : IsNode w q2 n2 r3 r4 t2) (hne : q1 ≠ q2) :
    (binOp .eql 43 (.pointer (some ⟨q1, 0, none⟩)) (.pointer (some ⟨q2, 0, none⟩))).run Try.prog w = .ok (.bool false) w := by
  obtain ⟨j, hj, hs⟩ := Option.map_eq_some_iff.1 info47
  exact run_eql_ptr_other w (a := ⟨q1, 0, none⟩) (b := ⟨q2, 0, none⟩) Try.underlying43 hj (by rw [hs]; decide) (fun e => hne (congrArg Addr.block e)) h1 h2

theorem below_on {W w w' : World} (h : Below W.heap.size W w) (h' : Below w.heap.size w w') : Below W.heap.size W w' := h.trans (h'.mono h.size)

theorem Mp.of_end {w w' : World} {a : Option Addr} {e n : Nat} {D : DataW Unit} {r : Option Nat} (h1 : r.isNone = a.isNone) (h2 : ∀ bm, r = some bm → w.heap.size ≤ bm ∧ w'.ownsMap Try.prog 9 (plainElem Try.prog e) bm n D) : Mp w' a e n D r :=
  ⟨h1, fun b hb => (h2 b hb).2⟩

theorem same_of_Mp {w : World} {a : Option Addr} {n : Nat} {ks vs : Nat → ByteArray} {r1 r3 : Option Nat} (h1 : Mp w a 9 n (labD ks vs n) r1) (h3 : Mp w a 9 n (labD ks vs n) r3) (hz : a = none → n = 0) (hk : ∀ k, k < n → (ks k).size ≤ 1048576) : SameS w r1 r3 n ks :=
  SameS.of w r1 r3 n ks vs (h1.1.trans h3.1.symm) (fun e => hz (by have := h1.1; rw [e] at this; simpa using this.symm)) (fun k hk' => by have := hk k hk'; omega) h1.2 h3.2

theorem sameI_of_Mp {w : World} {a : Option Addr} {n : Nat} {nm : Nat → ByteArray} {am : Nat → Int} {r1 r3 : Option Nat} (h1 : Mp w a 2 n (amtD nm am n) r1) (h3 : Mp w a 2 n (amtD nm am n) r3) (hz : a = none → n = 0) (hk : ∀ k, k < n → (nm k).size ≤ 1048576) : SameI w r1 r3 n nm :=
  SameI.of w r1 r3 n nm am (h1.1.trans h3.1.symm) (fun e => hz (by have := h1.1; rw [e] at this; simpa using this.symm)) (fun k hk' => by have := hk k hk'; omega) h1.2 h3.2
end Go.Proofs.Qxb6608834a
