/- append onto a row of the call's own (element size 1), whatever the source (a slice, nil, a string): where the new slice lies. Over any program. -/
import Derived.Deep.AppendSrc
import Derived.Maps.AppendAt
import Derived.Below
namespace Go.Proofs.Qxb6613739a
open Go.RowKit

/-- Block g is a row of cap cells of type e, not frozen; its first cells are xs. -/
def Has (w : World) (e : TypeId) (g cap : Nat) (xs : List Value) : Prop :=
  ∃ cur : Array Value, w.heap[g]? = some (.cells cur e (0, 0)) ∧ xs.length ≤ cap ∧ cap ≤ maxLen ∧ cur.size = cap ∧ cur.toList.take xs.length = xs

theorem Has.lt {w : World} {e : TypeId} {g cap : Nat} {xs : List Value} (h : Has w e g cap xs) : g < w.heap.size := by
  obtain ⟨cur, hg, _⟩ := h
  exact (Array.getElem?_eq_some_iff.1 hg).1

theorem Has.of_block {w w' : World} {e : TypeId} {g cap : Nat} {xs : List Value} (h : Has w e g cap xs) (hb : w'.heap[g]? = w.heap[g]?) : Has w' e g cap xs := by
  obtain ⟨cur, hg, r⟩ := h
  exact ⟨cur, hb.trans hg, r⟩

theorem Has.own {w : World} {e : TypeId} {g cap : Nat} {xs : List Value} (h : Has w e g cap xs) (base : Nat) (hb : base ≤ g) :
    w.ownsRow base e 1 (.slice (some ⟨g, 0, none⟩) xs.length cap) xs.length xs := by
  obtain ⟨cur, hg, h1, h2, h3, h4⟩ := h
  exact ⟨by simp, .inr ⟨g, cap, cur, rfl, hb, hg, h1, h2, by simpa using h3, by simpa using h4⟩⟩

theorem Has.cell {w : World} {e : TypeId} {g cap : Nat} {xs : List Value} (h : Has w e g cap xs) (j : Nat) (u : Value) (hu : xs[j]? = some u) : w.cell? ⟨g, j, none⟩ = some u := by
  have := (h.own 0 (Nat.zero_le _)).cells (g := g) rfl j u hu
  rwa [show (⟨g, 0, none⟩ : Addr).add j = ⟨g, j, none⟩ by unfold Addr.add; split <;> simp_all] at this

/-- What an append onto such a row leaves. -/
theorem run_append_has {P : Program} (w : World) (t tx ty e : TypeId) (i : TypeInfo) (z : Value) (bytes : Nat) (ht : P.underlying t = some (.slice e)) (hi : P.info? e = some i) (hz : i.zero = some z)
    (hsize : i.size = 1) (hby : i.bytes = bytes) (hzs : z.cells.size = 1)
    (g cap n : Nat) (xs : List Value) (hn : xs.length = n) (hown : Has w e g cap xs) (x : Value) (m : Nat) (news : List Value) (hs : Src P 1 tx x m news w)
    (h63 : n + m ≤ maxLen) (hbytes : (n + m) * bytes ≤ 140737488355328) :
    ∃ g' cap' w', (Builtin.append_ #[t, tx] ty #[.slice (some ⟨g, 0, none⟩) n cap, x]).run P w = .ok (.slice (some ⟨g', 0, none⟩) (n + m) cap') w' ∧
      Has w' e g' cap' (xs ++ news) ∧ w.grownBy w' (some g) ∧ (g' = g ∨ g' = w.heap.size) := by
  subst hby
  subst hn
  have hcells := (hown.own 0 (Nat.zero_le _)).cells (g := g) rfl
  obtain ⟨cur, hg, hl, hcm, hcs, htake⟩ := hown
  have hnl : news.length = m := by simpa using hs.newsLen
  have hsmall : xs.length + m ≤ 9223372036854775807 := by simp only [maxLen] at h63; omega
  by_cases hroom : xs.length + m ≤ cap
  · have hst := run_storeCells_at P g xs.length e news 0 cur w hg (by omega) hs.one
    simp only [Nat.add_zero] at hst
    refine ⟨g, cap, w.setRow g (cur.toList.take xs.length ++ news ++ cur.toList.drop (xs.length + news.length)).toArray, ?_, ?_, ?_, .inl rfl⟩
    · rcases hs.kind with ⟨e', hk⟩ | hk <;> simp [Builtin.append_, run_underlying ht, run_underlying hk, sizeOf, typeInfo, hi, hsize, hs.len, hroom, hs.cells, Addr.add_lit, hst]
    · refine ⟨_, setRow_heap w g cur _ e _ hg, by simp [hnl, hroom], hcm, ?_, ?_⟩
      · simp only [List.size_toArray, List.length_append, List.length_take, List.length_drop, Array.length_toList]
        omega
      · rw [htake]
        exact List.take_left
    · exact ⟨rfl, rfl, rfl, by simp, fun k _ hk => setRow_other w g k _ (fun e => hk (by simp [e]))⟩
  · have hfo := run_firstCells_some (P := P) w.drew i.size xs.length ⟨g, 0, none⟩ xs.length cap xs (by rw [hsize]; simp) (by simpa using hcells)
    have hs' : Src P i.size tx x m news w := by rw [hsize]; exact hs
    have hr := run_append_grow_src (P := P) w t tx ty e i z ht hi hz (some ⟨g, 0, none⟩) xs.length cap xs hfo x m news hs' (by omega) (by omega) (growslice_fits (by omega) hbytes)
    have hge := grownCap_ge w (xs.length + m) cap e
    have hcm' : grownCap w (xs.length + m) cap e ≤ maxLen := grownCap_le_maxLen w (xs.length + m) cap e h63
    refine ⟨w.heap.size, _, _, hr, ⟨_, heap_alloc_new w.drew _, by simpa [hnl] using hge, hcm', ?_, ?_⟩, ⟨rfl, rfl, rfl, by simp, fun k hk _ => heap_alloc_old w.drew _ k hk⟩, .inr rfl⟩
    · simp only [Array.size_append, List.size_toArray, size_zeroCells, hzs, List.length_append, hnl]
      omega
    · simp only [Array.toList_append]
      exact List.take_left

/-- The same at the operation, for the walk. -/
theorem wpList_append_has {P : Program} (w : World) {ops : Array Oper} {rest : List Oper} {o : Oper} {a : Act} {Q : Exit → Act → World → Prop} (hgd : o.guard = none) (s x : Operand) (t tx : TypeId)
    (ho : o.op = .call { callee := .builtin .append, args := #[s, x], argTypes := #[t, tx] })
    (e : TypeId) (i : TypeInfo) (z : Value) (bytes : Nat) (ht : P.underlying t = some (.slice e)) (hi : P.info? e = some i) (hz : i.zero = some z)
    (hsize : i.size = 1) (hby : i.bytes = bytes) (hzs : z.cells.size = 1)
    (g cap n : Nat) (xs : List Value) (hn : xs.length = n) (hsv : a.eval s = .slice (some ⟨g, 0, none⟩) n cap) (hown : Has w e g cap xs)
    (v : Value) (hx : a.eval x = v) (m : Nat) (news : List Value) (hs : Src P 1 tx v m news w)
    (h63 : n + m ≤ maxLen) (hbytes : (n + m) * bytes ≤ 140737488355328)
    (h : ∀ g' cap' w', Has w' e g' cap' (xs ++ news) → w.grownBy w' (some g) → (g' = g ∨ g' = w.heap.size) → wpList P ops Q rest (a.put o.dst (.slice (some ⟨g', 0, none⟩) (n + m) cap')) w') :
    wpList P ops Q (o :: rest) a w := by
  refine wpList_plain hgd fun K hK => ?_
  obtain ⟨g', cap', w', hr, h2, h3, h4⟩ := run_append_has (P := P) w t tx o.type e i z bytes ht hi hz hsize hby hzs g cap n xs hn hown v m news hs h63 hbytes
  unfold Oper.wp execOp
  simp only [ho, resolve, invoke, builtin, Sem.run_bind, Sem.run_pure, Result.andThen_ok, List.map_toArray, List.map_cons, List.map_nil, hsv, hx, hr]
  exact hK _ _ (h g' cap' w' h2 h3 h4)

end Go.Proofs.Qxb6613739a
