import Derived.Test.Qxb6608834aArgs
import Derived.OpenShut
import Derived.Deep.Slices
import Derived.Deep.Strs
namespace Go.Proofs.Qxb6608834a
open Go.RowKit Go.Deep

theorem cells9 : Try.prog.cellsOf 9 = 1 := by kernel_rfl
theorem cells2 : Try.prog.cellsOf 2 = 1 := by kernel_rfl
theorem cells92 : Try.prog.cellsOf 92 = 2 := by kernel_rfl
theorem cells50 : Try.prog.cellsOf 50 = 3 := by kernel_rfl
theorem cells94 : Try.prog.cellsOf 94 = 2 := by kernel_rfl

theorem size92 : (Try.prog.info? 92).map (fun i => i.size) = some 2 := by kernel_rfl
theorem size50 : (Try.prog.info? 50).map (fun i => i.size) = some 3 := by kernel_rfl
theorem size94 : (Try.prog.info? 94).map (fun i => i.size) = some 2 := by kernel_rfl

theorem idx_of {t e size : Nat} (ht : Try.prog.underlying t = some (.slice e)) (hs : (Try.prog.info? e).map (fun i => i.size) = some size) (b off n c : Nat) : Idx t (some ⟨b, off, none⟩) n c b off size := by
  intro k hk wx
  obtain ⟨i, hi, hsz⟩ := Option.map_eq_some_iff.1 hs
  have hadd : ∀ j, (⟨b, off, none⟩ : Addr).add j = ⟨b, off + j, none⟩ := fun j => by unfold Addr.add; split <;> simp_all
  simp [Instr.indexAt, run_underlying ht, sizeOf, typeInfo, hi, hsz, hk, hadd, asIntOf]

section
variable {H : Type} {enc : TypeId × Value → H} {w : World} {base : Nat} {spare : Nat → Bool} {held : Bool} {fuel : Nat} {x : DataW H × List MemPlace}

/-- A slice that is not empty begins at a plain address. -/
theorem plain_addr {a : Addr} {v : Value} (h : w.cell? (a.add 0) = some v) : ∃ b off, a = ⟨b, off, none⟩ ∧ b < w.heap.size := by
  obtain ⟨b, off, spot⟩ := a
  have hspot : spot = none := by simpa [Addr.add] using World.cell?_spot h
  subst hspot
  have := World.block_lt_of_cell? w _ h
  exact ⟨b, off, rfl, by simpa [Addr.add] using this⟩

theorem add_at (b off j : Nat) : (⟨b, off, none⟩ : Addr).add j = ⟨b, off + j, none⟩ := by unfold Addr.add; split <;> simp_all

set_option maxRecDepth 100000 in
theorem open_labels {a : Option Addr} {n c : Nat} (h : DataW.trod enc Try.prog w base spare held fuel 59 [.slice a n c] = some x) :
    (a = none → n = 0) ∧ n ≤ 9223372036854775807 ∧ ∃ b off ks vs, ArgL w a n c b off ks vs := by
  rcases open_slice Try.underlying59 h with ⟨hcs, _⟩ | ⟨a', len, cap, m, f, D, Pl, hcs, _, hl, hm, hmm, _, hx⟩
  · simp at hcs
    obtain ⟨rfl, rfl, rfl⟩ := hcs
    exact ⟨fun _ => rfl, by omega, 0, 0, fun _ => ByteArray.empty, fun _ => ByteArray.empty, fun k hk => by omega, fun k hk => by omega⟩
  · simp at hcs
    obtain ⟨rfl, rfl, rfl⟩ := hcs
    have hlm : n ≤ m := by rw [hmm]; split <;> omega
    refine ⟨fun e => (by cases e), by unfold maxLen at hm; omega, ?_⟩
    have each : ∀ i, i < n → ∃ q : ByteArray × ByteArray, w.cell? (a'.add (i * 2)) = some (.string q.1) ∧ w.cell? (a'.add (i * 2 + 1)) = some (.string q.2) ∧ q.1.size ≤ maxLen ∧ q.2.size ≤ maxLen := by
      intro i hi
      obtain ⟨cs', h1, h2⟩ := hx i (by omega)
      rw [cells92] at h1
      obtain ⟨_, hlen, hcell⟩ := World.cells?_some h1
      obtain ⟨xs, _, _, _, _, hxl, hf⟩ := DataW.trod_array Try.underlying92 h2
      match xs, hxl, cs', hlen with
      | [y0, y1], _, [v0, v1], _ =>
        have g0 := hf 0 (by omega)
        have g1 := hf 1 (by omega)
        simp [cells9] at g0 g1
        obtain ⟨s, e0, _, w0⟩ := DataW.trod_string Try.underlying9 g0
        obtain ⟨t, e1, _, w1⟩ := DataW.trod_string Try.underlying9 g1
        simp at e0 e1
        subst e0 e1
        have k0 := hcell 0 (by omega)
        have k1 := hcell 1 (by omega)
        rw [add_add] at k0 k1
        exact ⟨(s, t), by simpa using k0, by simpa using k1, w0, w1⟩
    obtain ⟨q, hq⟩ := choose_lt each
    by_cases hn : 0 < n
    · obtain ⟨b, off, rfl, lt⟩ := plain_addr (a := a') (by have := (hq 0 hn).1; simpa using this)
      refine ⟨b, off, fun i => (q i).1, fun i => (q i).2, idx_of Try.underlying59 size92 _ _ _ _, fun k hk => ?_⟩
      obtain ⟨k1, k2, k3, k4⟩ := hq k hk
      rw [add_at] at k1 k2
      unfold maxLen at k3 k4
      exact ⟨lt, k1, by rw [Nat.add_assoc]; exact k2, by omega, by omega⟩
    · exact ⟨0, 0, fun _ => ByteArray.empty, fun _ => ByteArray.empty, fun k hk => by omega, fun k hk => by omega⟩

set_option maxRecDepth 100000 in
theorem open_taints {a : Option Addr} {n c : Nat} (h : DataW.trod enc Try.prog w base spare held fuel 32 [.slice a n c] = some x) :
    (a = none → n = 0) ∧ n ≤ 9223372036854775807 ∧ ∃ b off x y z, ArgT w a n c b off x y z := by
  rcases open_slice Try.underlying32 h with ⟨hcs, _⟩ | ⟨a', len, cap, m, f, D, Pl, hcs, _, hl, hm, hmm, _, hx⟩
  · simp at hcs
    obtain ⟨rfl, rfl, rfl⟩ := hcs
    exact ⟨fun _ => rfl, by omega, 0, 0, fun _ => ByteArray.empty, fun _ => ByteArray.empty, fun _ => ByteArray.empty, fun k hk => by omega, fun k hk => by omega⟩
  · simp at hcs
    obtain ⟨rfl, rfl, rfl⟩ := hcs
    have hlm : n ≤ m := by rw [hmm]; split <;> omega
    refine ⟨fun e => (by cases e), by unfold maxLen at hm; omega, ?_⟩
    have each : ∀ i, i < n → ∃ q : ByteArray × ByteArray × ByteArray, w.cell? (a'.add (i * 3)) = some (.string q.1) ∧ w.cell? (a'.add (i * 3 + 1)) = some (.string q.2.1) ∧ w.cell? (a'.add (i * 3 + 2)) = some (.string q.2.2) ∧ q.1.size ≤ maxLen ∧ q.2.1.size ≤ maxLen ∧ q.2.2.size ≤ maxLen := by
      intro i hi
      obtain ⟨cs', h1, h2⟩ := hx i (by omega)
      rw [cells50] at h1
      obtain ⟨_, hlen, hcell⟩ := World.cells?_some h1
      obtain ⟨y0, y1, y2, f', _, _, g0, g1, g2⟩ := trod_struct3 Try.underlying50 h2
      match cs', hlen with
      | [v0, v1, v2], _ =>
        simp [cells9] at g0 g1 g2
        obtain ⟨s, e0, _, w0⟩ := DataW.trod_string Try.underlying9 g0
        obtain ⟨t, e1, _, w1⟩ := DataW.trod_string Try.underlying9 g1
        obtain ⟨u, e2, _, w2⟩ := DataW.trod_string Try.underlying9 g2
        simp at e0 e1 e2
        subst e0 e1 e2
        have k0 := hcell 0 (by omega)
        have k1 := hcell 1 (by omega)
        have k2 := hcell 2 (by omega)
        rw [add_add] at k0 k1 k2
        exact ⟨(s, t, u), by simpa using k0, by simpa using k1, by simpa using k2, w0, w1, w2⟩
    obtain ⟨q, hq⟩ := choose_lt each
    by_cases hn : 0 < n
    · obtain ⟨b, off, rfl, lt⟩ := plain_addr (a := a') (by have := (hq 0 hn).1; simpa using this)
      refine ⟨b, off, fun i => (q i).1, fun i => (q i).2.1, fun i => (q i).2.2, idx_of Try.underlying32 size50 _ _ _ _, fun k hk => ?_⟩
      obtain ⟨k1, k2, k3, k4, k5, k6⟩ := hq k hk
      rw [add_at] at k1 k2 k3
      unfold maxLen at k4 k5 k6
      exact ⟨lt, k1, by rw [Nat.add_assoc]; exact k2, by rw [Nat.add_assoc]; exact k3, by omega, by omega, by omega⟩
    · exact ⟨0, 0, fun _ => ByteArray.empty, fun _ => ByteArray.empty, fun _ => ByteArray.empty, fun k hk => by omega, fun k hk => by omega⟩

set_option maxRecDepth 100000 in
theorem open_amounts {a : Option Addr} {n c : Nat} (h : DataW.trod enc Try.prog w base spare held fuel 60 [.slice a n c] = some x) :
    (a = none → n = 0) ∧ n ≤ 9223372036854775807 ∧ ∃ b off nm am, ArgA w a n c b off nm am := by
  rcases open_slice Try.underlying60 h with ⟨hcs, _⟩ | ⟨a', len, cap, m, f, D, Pl, hcs, _, hl, hm, hmm, _, hx⟩
  · simp at hcs
    obtain ⟨rfl, rfl, rfl⟩ := hcs
    exact ⟨fun _ => rfl, by omega, 0, 0, fun _ => ByteArray.empty, fun _ => 0, fun k hk => by omega, fun k hk => by omega⟩
  · simp at hcs
    obtain ⟨rfl, rfl, rfl⟩ := hcs
    have hlm : n ≤ m := by rw [hmm]; split <;> omega
    refine ⟨fun e => (by cases e), by unfold maxLen at hm; omega, ?_⟩
    have each : ∀ i, i < n → ∃ q : ByteArray × Int, w.cell? (a'.add (i * 2)) = some (.string q.1) ∧ w.cell? (a'.add (i * 2 + 1)) = some (.int .i64 q.2) ∧ q.1.size ≤ maxLen ∧ (Lit.int .i64 q.2).wf = true := by
      intro i hi
      obtain ⟨cs', h1, h2⟩ := hx i (by omega)
      rw [cells94] at h1
      obtain ⟨_, hlen, hcell⟩ := World.cells?_some h1
      obtain ⟨xs, _, _, _, _, hxl, hf⟩ := DataW.trod_struct Try.underlying94 h2
      match xs, hxl, cs', hlen with
      | [y0, y1], _, [v0, v1], _ =>
        have g0 := hf 0 _ rfl
        have g1 := hf 1 _ rfl
        simp [cells9, cells2] at g0 g1
        obtain ⟨s, e0, _, w0⟩ := DataW.trod_string Try.underlying9 g0
        obtain ⟨t, e1, _, w1⟩ := DataW.trod_int Try.underlying2 g1
        simp at e0 e1
        subst e0 e1
        have k0 := hcell 0 (by omega)
        have k1 := hcell 1 (by omega)
        rw [add_add] at k0 k1
        exact ⟨(s, t), by simpa using k0, by simpa using k1, w0, w1⟩
    obtain ⟨q, hq⟩ := choose_lt each
    by_cases hn : 0 < n
    · obtain ⟨b, off, rfl, lt⟩ := plain_addr (a := a') (by have := (hq 0 hn).1; simpa using this)
      refine ⟨b, off, fun i => (q i).1, fun i => (q i).2, idx_of Try.underlying60 size94 _ _ _ _, fun k hk => ?_⟩
      obtain ⟨k1, k2, k3, k4⟩ := hq k hk
      rw [add_at] at k1 k2
      unfold maxLen at k3
      exact ⟨lt, k1, by rw [Nat.add_assoc]; exact k2, by omega, k4⟩
    · exact ⟨0, 0, fun _ => ByteArray.empty, fun _ => 0, fun k hk => by omega, fun k hk => by omega⟩
end
end Go.Proofs.Qxb6608834a
