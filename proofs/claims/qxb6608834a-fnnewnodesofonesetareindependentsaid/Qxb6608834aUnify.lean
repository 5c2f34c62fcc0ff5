import Derived.Test.Qxb6608834aFresh
namespace Go.Proofs.Qxb6608834a
open Go.RowKit Go.Maps

theorem addr_add (g off j : Nat) : (⟨g, off, none⟩ : Addr).add j = ⟨g, off + j, none⟩ := by unfold Addr.add; split <;> simp_all

theorem idx36 (g n c k : Nat) (hk : k < n) (wx : World) : (Instr.indexAt 36 (.slice (some ⟨g, 0, none⟩) n c) (.int .i64 (k : Int))).run Try.prog wx = .ok (.pointer (some ⟨g, k * 3, none⟩)) wx := by
  obtain ⟨i0, hi0, hz0, hz1, hz2⟩ := info_parts info56
  simp [Instr.indexAt, run_underlying Try.underlying36, sizeOf, typeInfo, hi0, hz1, hk, addr_add, asIntOf]

theorem Tn.tv {w : World} {g n c : Nat} {x y z : Nat → ByteArray} (h : Tn w g n x y z) : TV w (some ⟨g, 0, none⟩) n c g x y z := by
  refine ⟨fun k hk wx => idx36 g n c k hk wx, fun k hk => ?_⟩
  obtain ⟨cur, hg, _, hc⟩ := h
  obtain ⟨h1, h2, h3⟩ := hc k hk
  exact ⟨(Array.getElem?_eq_some_iff.1 hg).1, by rw [cell_of_row w g _ cur 56 (0, 0) hg]; exact h1, by rw [cell_of_row w g _ cur 56 (0, 0) hg]; exact h2, by rw [cell_of_row w g _ cur 56 (0, 0) hg]; exact h3⟩

theorem Tn.of_block {w w' : World} {g n : Nat} {x y z : Nat → ByteArray} (h : Tn w g n x y z) (hb : w'.heap[g]? = w.heap[g]?) : Tn w' g n x y z := by
  obtain ⟨cur, hg, r⟩ := h
  exact ⟨cur, hb.trans hg, r⟩
theorem Tn.lt {w : World} {g n : Nat} {x y z : Nat → ByteArray} (h : Tn w g n x y z) : g < w.heap.size := by
  obtain ⟨cur, hg, r⟩ := h
  exact (Array.getElem?_eq_some_iff.1 hg).1

/-- A slice of n taints: of one that is not empty, where it lies and what it holds. -/
def Holds (w : World) (va : Option Addr) (n g : Nat) (x y z : Nat → ByteArray) : Prop := 0 < n → va = some ⟨g, 0, none⟩ ∧ Tn w g n x y z

theorem Holds.tv {w : World} {va : Option Addr} {n c g : Nat} {x y z : Nat → ByteArray} (h : Holds w va n g x y z) : TV w va n c g x y z := by
  by_cases hn : 0 < n
  · obtain ⟨rfl, hT⟩ := h hn
    exact hT.tv
  · exact ⟨fun k hk => by omega, fun k hk => by omega⟩

def TEnd (w : World) (n : Nat) (x y z : Nat → ByteArray) (e : Ending) (w' : World) : Prop :=
  ∃ sa sc, e = .returned (.slice sa n sc) ∧ Holds w' sa n w.heap.size x y z ∧ Below w.heap.size w w'

theorem taintsU (w : World) (a : Option Addr) (n c b off : Nat) (x y z : Nat → ByteArray) (h : ArgT w a n c b off x y z) (h0 : a = none → n = 0) (hn : n ≤ 1048576) :
    Calls Try.prog 19 #[.slice a n c] w fun e w' => TEnd w n x y z e w' := by
  refine (taints_any w a n c b off x y z h hn).mono ?_
  rintro e w' ⟨B, ⟨ha, rfl⟩ | ⟨ha, rfl, hT⟩⟩
  · obtain rfl := h0 ha
    exact ⟨none, 0, rfl, fun h => by omega, B⟩
  · exact ⟨_, n, rfl, fun _ => ⟨rfl, hT⟩, B⟩

def NEnd (w : World) (name : ByteArray) (r1 r2 : Option Nat) (n : Nat) (x y z : Nat → ByteArray) (e : Ending) (w' : World) : Prop :=
  ∃ va vc g q, e = .returned (.pointer (some ⟨q, 0, none⟩)) ∧ IsNode w' q name r1 r2 (.slice va n vc) ∧ Holds w' va n g x y z ∧ Below w.heap.size w w' ∧ w.heap.size ≤ q ∧ w.heap.size ≤ g

theorem newNodeU (w : World) (p : Nat) (name : ByteArray) (r1 r2 : Option Nat) (sa : Option Addr) (gt n sc : Nat) (x y z : Nat → ByteArray) (h : IsSet w p r1 r2 (.slice sa n sc)) (hT : Holds w sa n gt x y z) (hs : n ≤ 1048576) :
    Calls Try.prog 20 #[.pointer (some ⟨p, 0, none⟩), .string name] w fun e w' => NEnd w name r1 r2 n x y z e w' := by
  by_cases hn : 0 < n
  · obtain ⟨rfl, hT'⟩ := hT hn
    refine (newNode_some w p name r1 r2 gt n sc x y z h hT' hn hs).mono ?_
    rintro e w' ⟨g, cap, q, rfl, h1, h2, h3, h4, h5⟩
    exact ⟨_, cap, g, q, rfl, h1, fun _ => ⟨rfl, h2⟩, h3, h5, h4⟩
  · obtain rfl : n = 0 := by omega
    refine (newNode_none w p name r1 r2 sa sc h).mono ?_
    rintro e w' ⟨q, rfl, h1, h3, h5⟩
    exact ⟨none, 0, w.heap.size, q, rfl, h1, fun h => by omega, h3, h5, Nat.le_refl _⟩
end Go.Proofs.Qxb6608834a
