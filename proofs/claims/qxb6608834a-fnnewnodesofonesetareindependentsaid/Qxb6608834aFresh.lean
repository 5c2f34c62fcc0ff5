import Derived.Test.Qxb6608834aFacts
namespace Go.Proofs.Qxb6608834a
open Go.RowKit Go.Maps

/-- A node's own taints. -/
def TV (w : World) (ta : Option Addr) (n c g : Nat) (x y z : Nat → ByteArray) : Prop :=
  (∀ k : Nat, k < n → ∀ wx : World, (Instr.indexAt 36 (.slice ta n c) (.int .i64 (k : Int))).run Try.prog wx = .ok (.pointer (some ⟨g, k * 3, none⟩)) wx) ∧
  ∀ k, k < n → g < w.heap.size ∧ w.cell? ⟨g, k * 3, none⟩ = some (.string (x k)) ∧ w.cell? ⟨g, k * 3 + 1, none⟩ = some (.string (y k)) ∧ w.cell? ⟨g, k * 3 + 2, none⟩ = some (.string (z k))

set_option maxRecDepth 100000 in
set_option maxHeartbeats 3000000 in
theorem fresh_any (w : World) (q : Nat) (name : ByteArray) (r1 r2 r3 r4 : Option Nat) (va : Option Addr) (nt vc g : Nat) (x y z : Nat → ByteArray)
    (al : Option Addr) (nl cl bl ol : Nat) (ks vs : Nat → ByteArray) (ta : Option Addr) (ct bt ot : Nat) (aa : Option Addr) (na ca ba oa : Nat) (nm : Nat → ByteArray) (am : Nat → Int)
    (hN : IsNode w q name r1 r2 (.slice va nt vc)) (hV : TV w va nt vc g x y z) (hS : SameS w r1 r3 nl ks) (hI : SameI w r2 r4 na nm)
    (hl : ArgL w al nl cl bl ol ks vs) (ht : ArgT w ta nt ct bt ot x y z) (ha : ArgA w aa na ca ba oa nm am) (ml : nl ≤ 1048576) (mt : nt ≤ 1048576) (ma : na ≤ 1048576) :
    Calls Try.prog 29 #[.pointer (some ⟨q, 0, none⟩), .string name, .slice al nl cl, .map r3, .slice aa na ca, .map r4, .slice ta nt ct] w fun e w' => e = .returned (.bool true) ∧ Below w.heap.size w w' := by
  have HL : Hid (ArgL w al nl cl bl ol ks vs) := hl
  have HT : Hid (ArgT w ta nt ct bt ot x y z) := ht
  have HA : Hid (ArgA w aa na ca ba oa nm am) := ha
  have HV : Hid (TV w va nt vc g x y z) := hV
  have HS : Hid (SameS w r1 r3 nl ks) := hS
  have HI : Hid (SameI w r2 r4 na nm) := hI
  have HN : Hid (IsNode w q name r1 r2 (.slice va nt vc)) := hN
  have n0 : w.cell? ⟨q, 0, none⟩ = some (.string name) := by have := HN.out; unfold IsNode at this; simp [World.cell?, this]
  have n1 : w.cell? ⟨q, 1, none⟩ = some (.map r1) := by have := HN.out; unfold IsNode at this; simp [World.cell?, this]
  have n2 : w.cell? ⟨q, 2, none⟩ = some (.map r2) := by have := HN.out; unfold IsNode at this; simp [World.cell?, this]
  have n3 : w.cell? ⟨q, 3, none⟩ = some (.slice va nt vc) := by have := HN.out; unfold IsNode at this; simp [World.cell?, this]
  have n4 : w.cell? ⟨q, 4, none⟩ = some (.bool false) := by have := HN.out; unfold IsNode at this; simp [World.cell?, this]
  have n5 : w.cell? ⟨q, 5, none⟩ = some (.map none) := by have := HN.out; unfold IsNode at this; simp [World.cell?, this]
  have n6 : w.cell? ⟨q, 6, none⟩ = some (.bool false) := by have := HN.out; unfold IsNode at this; simp [World.cell?, this]
  clear hl ht ha hV hS hI hN
  have e38 := fun w r => run_eql_map_nil (P := Try.prog) w 38 9 9 r Try.underlying38
  have e40 := fun w r => run_eql_map_nil (P := Try.prog) w 40 9 2 r Try.underlying40
  obtain ⟨zl, hzl⟩ := HS.out.len
  obtain ⟨za, hza⟩ := HI.out.len
  have l1 := fun ty wx hx => (hzl wx hx ty).1
  have l3 := fun ty wx hx => (hzl wx hx ty).2
  have l2 := fun ty wx hx => (hza wx hx ty).1
  have l4 := fun ty wx hx => (hza wx hx ty).2
  have g1 := HS.out.nil
  have g2 := HI.out.nil
  clear hzl hza
  go_enter Try.func29, Try.ntmps29
  go_wp2
  go_loopw [15, 16, 17] (fun i _ _ wr => ∃ k : Nat, k ≤ nl ∧ i = .int .i64 k ∧ ∃ nq, wr = w.drewN nq) (fun i _ _ _ => nl - (intOf i).toNat)
  case atStart => exact ⟨0, Nat.zero_le _, rfl, 0, rfl⟩
  case round =>
    obtain ⟨k, hk, rfl, nq, rfl⟩ := hrel
    by_cases hlt : k < nl
    · have i1 := HL.out.1 k hlt
      obtain ⟨_, c1, _⟩ := HL.out.2 k hlt
      obtain ⟨v, hv⟩ := HS.out.look k hlt
      have k1 : ∀ m, (Instr.lookup 38 (.map r1) (.string (ks k)) true).run Try.prog (w.drewN m) = .ok (.tuple #[.string v, .bool true]) (w.drewN m) := fun m => (hv (w.drewN m) rfl).1
      have k3 : ∀ m, (Instr.lookup 38 (.map r3) (.string (ks k)) false).run Try.prog (w.drewN m) = .ok (.string v) (w.drewN m) := fun m => (hv (w.drewN m) rfl).2
      obtain ⟨s, hs⟩ : ∃ s, s = ks k := ⟨_, rfl⟩
      rw [← hs] at c1 k1 k3
      clear hs hv l1 l3 l2 l4 g1 g2 e38 e40
      go_wp2
      go_region
      go_wp2
      go_roundw
      case rel => exact ⟨k + 1, by omega, by go_num, _, rfl⟩
      case measure => simp [intOf]; omega
    · have l2' : ∀ ty m, (Builtin.len_ #[40] ty #[.map r2]).run Try.prog (w.drewN m) = .ok (.int .i64 (za : Int)) (w.drewN m) := fun ty m => l2 ty _ rfl
      have l4' : ∀ ty m, (Builtin.len_ #[40] ty #[.map r4]).run Try.prog (w.drewN m) = .ok (.int .i64 (za : Int)) (w.drewN m) := fun ty m => l4 ty _ rfl
      clear l1 l3 g1 e38 n0 n4 n5 n6 l2 l4
      go_wp2
      go_loopw [18, 19, 20] (fun i _ _ wr => ∃ k : Nat, k ≤ na ∧ i = .int .i64 k ∧ ∃ nq, wr = w.drewN nq) (fun i _ _ _ => na - (intOf i).toNat)
      case atStart => exact ⟨0, Nat.zero_le _, rfl, _, rfl⟩
      case round =>
        obtain ⟨k2, hk2, rfl, nq2, rfl⟩ := hrel
        by_cases hlt2 : k2 < na
        · have i1 := HA.out.1 k2 hlt2
          obtain ⟨_, c1, _⟩ := HA.out.2 k2 hlt2
          obtain ⟨v, hv⟩ := HI.out.look k2 hlt2
          have k1 : ∀ m, (Instr.lookup 40 (.map r2) (.string (nm k2)) true).run Try.prog (w.drewN m) = .ok (.tuple #[.int .i64 v, .bool true]) (w.drewN m) := fun m => (hv (w.drewN m) rfl).1
          have k3 : ∀ m, (Instr.lookup 40 (.map r4) (.string (nm k2)) false).run Try.prog (w.drewN m) = .ok (.int .i64 v) (w.drewN m) := fun m => (hv (w.drewN m) rfl).2
          obtain ⟨s, hs⟩ : ∃ s, s = nm k2 := ⟨_, rfl⟩
          rw [← hs] at c1 k1 k3
          clear hs hv l2' l4' g2 e40
          go_wp2
          go_region
          go_wp2
          go_roundw
          case rel => exact ⟨k2 + 1, by omega, by go_num, _, rfl⟩
          case measure => simp [intOf]; omega
        · clear l2' l4' g2 e40
          go_wp2
          go_loopw [21] (fun i wr => ∃ k : Nat, k ≤ nt ∧ i = .int .i64 k ∧ Hid (Below w.heap.size w wr)) (fun i _ => nt - (intOf i).toNat)
          case atStart => exact ⟨0, Nat.zero_le _, rfl, below_drewN (Below.refl _ _) _⟩
          case round =>
            obtain ⟨k3, hk3, rfl, BW⟩ := hrel
            by_cases hlt3 : k3 < nt
            · have i1 := HT.out.1 k3 hlt3
              have i2 := HV.out.1 k3 hlt3
              obtain ⟨tb, t1, t2, t3, _⟩ := HT.out.2 k3 hlt3
              obtain ⟨gb, v1, v2, v3⟩ := HV.out.2 k3 hlt3
              have qb : q < w.heap.size := World.block_lt_of_cell? w _ n3
              obtain ⟨s, hs⟩ : ∃ s, s = x k3 := ⟨_, rfl⟩
              obtain ⟨t, ht⟩ : ∃ s, s = y k3 := ⟨_, rfl⟩
              obtain ⟨u, hu⟩ : ∃ s, s = z k3 := ⟨_, rfl⟩
              rw [← hs] at t1 v1
              rw [← ht] at t2 v2
              rw [← hu] at t3 v3
              have a1 := (BW.out.cell (p := ⟨bt, ot + k3 * 3, none⟩) tb).trans t1
              have a2 := (BW.out.cell (p := ⟨bt, ot + k3 * 3 + 1, none⟩) tb).trans t2
              have a3 := (BW.out.cell (p := ⟨bt, ot + k3 * 3 + 2, none⟩) tb).trans t3
              have b1 := (BW.out.cell (p := ⟨g, k3 * 3, none⟩) gb).trans v1
              have b2 := (BW.out.cell (p := ⟨g, k3 * 3 + 1, none⟩) gb).trans v2
              have b3 := (BW.out.cell (p := ⟨g, k3 * 3 + 2, none⟩) gb).trans v3
              have b0 := (BW.out.cell (p := ⟨q, 3, none⟩) qb).trans n3
              have hz := BW.out.size
              have lt1 : bt < wr.heap.size := by omega
              have lt2 : g < wr.heap.size := by omega
              have lt3 : q < wr.heap.size := by omega
              have hne := neq56 s t u
              clear hs ht hu t1 t2 t3 v1 v2 v3 tb gb qb hz n1 n2 n3
              go_wp2
              go_region_held3 (fun w' => w'.cell? ⟨q, 3, none⟩ = some (.slice va nt vc) ∧ w'.cell? ⟨g, k3 * 3, none⟩ = some (.string s) ∧ w'.cell? ⟨g, k3 * 3 + 1, none⟩ = some (.string t) ∧ w'.cell? ⟨g, k3 * 3 + 2, none⟩ = some (.string u) ∧ w'.cell? ⟨bt, ot + k3 * 3, none⟩ = some (.string s) ∧ w'.cell? ⟨bt, ot + k3 * 3 + 1, none⟩ = some (.string t) ∧ w'.cell? ⟨bt, ot + k3 * 3 + 2, none⟩ = some (.string u))
                (first | go_keep | (go_split_ands; refine ⟨?_, ?_, ?_, ?_, ?_, ?_, ?_⟩ <;> (rw [B2.cell (by assumption)]; assumption)))
                ((go_at_call 22; refine (taint_any s t u _).mono ?_; rintro e w2 ⟨rfl, B2⟩))
              have BE : Hid (Below w.heap.size w w2) := BW.out.drew.trans (B2.mono BW.out.size)
              clear B2 BW
              go_wp2
              go_roundw
              case rel => exact ⟨k3 + 1, by omega, by go_num, BE⟩
              case measure => simp [intOf]; omega
            · go_wp2
              go_ret
              exact ⟨rfl, BW.out⟩
end Go.Proofs.Qxb6608834a
