import Derived.Test.Qxb6608834aState
import Derived.Test.Qxb6608834aBytes
namespace Go.Proofs.Qxb6608834a
open Go.RowKit Go.Maps

set_option maxRecDepth 100000 in
set_option maxHeartbeats 3000000 in
theorem main_any (w : World) (s0 s1 s2 : ByteArray) (q : Int) (al : Option Addr) (nl cl bl ol : Nat) (ks vs : Nat → ByteArray) (ta : Option Addr) (nt ct bt ot : Nat) (x y z : Nat → ByteArray) (aa : Option Addr) (na ca ba oa : Nat) (nm : Nat → ByteArray) (am : Nat → Int)
    (h0 : s0.size ≤ 9223372036854775807) (h1 : s1.size ≤ 9223372036854775807) (h2 : s2.size ≤ 9223372036854775807) (hl : ArgL w al nl cl bl ol ks vs) (ht : ArgT w ta nt ct bt ot x y z) (ha : ArgA w aa na ca ba oa nm am)
    (ml : nl ≤ 9223372036854775807) (mt : nt ≤ 9223372036854775807) (ma : na ≤ 9223372036854775807) (zl : al = none → nl = 0) (zt : ta = none → nt = 0) (za : aa = none → na = 0) :
    Calls Try.prog 6 #[.string s0, .int .i64 q, .slice al nl cl, .slice ta nt ct, .slice aa na ca, .string s1, .string s2] w fun e w' => e = .returned (.bool true) ∧ Below w.heap.size w w' := by
  have HL : Hid (ArgL w al nl cl bl ol ks vs) := hl
  have HT : Hid (ArgT w ta nt ct bt ot x y z) := ht
  have HA : Hid (ArgA w aa na ca ba oa nm am) := ha
  have ZL : Hid (al = none → nl = 0) := zl
  have ZT : Hid (ta = none → nt = 0) := zt
  have ZA : Hid (aa = none → na = 0) := za
  clear hl ht ha zl zt za
  go_enter Try.func6, Try.ntmps6
  go_wp2_with fail
  refine (bytes_any w s0 s1 s2 q al nl cl bl ol ks vs ta nt ct bt ot x y z aa na ca ba oa nm am h0 h1 h2 HL.out HT.out HA.out ml mt ma).mono ?_
  rintro e w' ⟨r, rfl, rfl, hr⟩
  cases r with
  | false =>
    clear hr
    go_wp2
    go_ret
    exact ⟨rfl, Below.refl _ _⟩
  | true =>
    obtain ⟨d0, d1, d2, d3, d4, d5, dl', dt', da'⟩ := hr rfl
    have DL : Hid (∀ k, k < nl → (ks k).size ≤ 1048576 ∧ (vs k).size ≤ 1048576) := dl'
    have DT : Hid (∀ k, k < nt → (x k).size ≤ 1048576 ∧ (y k).size ≤ 1048576 ∧ (z k).size ≤ 1048576) := dt'
    have DA : Hid (∀ k, k < na → (nm k).size ≤ 1048576) := da'
    clear hr dl' dt' da' h0 h1 h2 ml mt ma
    by_cases p0 : 48 + s0.size + s1.size + s2.size ≤ 1048576
    case neg =>
      go_wp2
      go_ret
      exact ⟨rfl, Below.refl _ _⟩
    go_wp2_with fail
    refine (labelBytes_any w' al nl cl bl ol ks vs HL.out _ (by omega) (by omega) d3 DL.out).mono ?_
    rintro e w1 ⟨m1, rfl, hm1, q1, rfl⟩
    by_cases p1 : m1 ≤ 1048576
    case neg =>
      go_wp2
      go_ret
      exact ⟨rfl, below_drewN (Below.refl _ _) _⟩
    go_wp2_with fail
    refine (taintBytes_any _ ta nt ct bt ot x y z (HT.out.below (below_drewN (Below.refl _ _) _)) _ hm1 p1 d4 DT.out).mono ?_
    rintro e w1 ⟨m2, rfl, hm2, q2, rfl⟩
    by_cases p2 : m2 ≤ 1048576
    case neg =>
      go_wp2
      go_ret
      exact ⟨rfl, below_drewN (Below.refl _ _) _⟩
    go_wp2_with fail
    refine (amountBytes_any _ aa na ca ba oa nm am (HA.out.below (below_drewN (Below.refl _ _) _)) _ hm2 p2 d5 DA.out).mono ?_
    rintro e w1 ⟨m3, rfl, hm3, q3, hw1⟩
    have B1 : Hid (Below w'.heap.size w' w1) := by rw [hw1]; exact below_drewN (below_drewN (Below.refl _ _) _) _
    clear hw1
    by_cases p3 : m3 ≤ 1048576
    case neg =>
      go_wp2
      go_ret
      exact ⟨rfl, B1.out⟩
    go_wp2_with fail
    refine (labels_any w1 al nl cl bl ol ks vs (HL.out.below B1.out) d3).mono ?_
    rintro e w2 ⟨r1, rfl, i1, j1, bel2⟩
    have M1 := Mp.of_end i1 j1
    have B2 : Hid (Below w'.heap.size w' w2) := below_on B1.out bel2
    clear i1 j1 bel2 B1
    go_wp2_with fail
    refine (taintsU w2 ta nt ct bt ot x y z (HT.out.below B2.out) ZT.out d4).mono ?_
    rintro e w3 ⟨sa, sc, rfl, T3, bel3⟩
    obtain ⟨gt, hgt⟩ : ∃ gt, gt = w2.heap.size := ⟨_, rfl⟩
    rw [← hgt] at T3
    have M1' := M1.later bel3
    have B3 : Hid (Below w'.heap.size w' w3) := below_on B2.out bel3
    clear bel3 B2 M1 hgt
    go_wp2_with fail
    refine (amounts_any w3 aa na ca ba oa nm am (HA.out.below B3.out) d5).mono ?_
    rintro e w4 ⟨r2, rfl, i1, j1, bel4⟩
    have M2 := Mp.of_end i1 j1
    have M1 := M1'.later bel4
    have T4 := T3.later bel4
    have B4 : Hid (Below w'.heap.size w' w4) := below_on B3.out bel4
    clear i1 j1 bel4 B3 M1' T3
    go_wp2_with fail
    obtain ⟨w5, hw5⟩ : ∃ w5, w5 = w4.alloc (.cells #[.string s0, .int .i64 q, .map r1, .slice sa nt sc, .map r2] 42) := ⟨_, rfl⟩
    have S5 : SetAt w5 w4.heap.size s0 q r1 r2 (.slice sa nt sc) := by rw [hw5]; exact heap_alloc_new w4 _
    have bel5 : Below w4.heap.size w4 w5 := by rw [hw5]; exact (Below.refl _ _).alloc (Nat.le_refl _) _
    rw [← hw5]
    obtain ⟨p, hp⟩ : ∃ p, p = w4.heap.size := ⟨_, rfl⟩
    rw [← hp] at S5 ⊢
    have M1' := M1.later bel5
    have M2' := M2.later bel5
    have T5 := T4.later bel5
    have B5 : Hid (Below w'.heap.size w' w5) := below_on B4.out bel5
    clear bel5 B4 M1 M2 T4 hw5 hp
    refine (labels_any w5 al nl cl bl ol ks vs (HL.out.below B5.out) d3).mono ?_
    rintro e w6 ⟨r3, rfl, i1, j1, bel6⟩
    have M3 := Mp.of_end i1 j1
    have M1 := M1'.later bel6
    have M2 := M2'.later bel6
    have T6 := T5.later bel6
    have S6 := S5.later bel6
    have B6 : Hid (Below w'.heap.size w' w6) := below_on B5.out bel6
    clear i1 j1 bel6 B5 M1' M2' T5 S5
    go_wp2_with fail
    refine (amounts_any w6 aa na ca ba oa nm am (HA.out.below B6.out) d5).mono ?_
    rintro e w7 ⟨r4, rfl, i1, j1, bel7⟩
    have M4 := Mp.of_end i1 j1
    have M1' := M1.later bel7
    have M2' := M2.later bel7
    have M3' := M3.later bel7
    have T7 := T6.later bel7
    have S7 := S6.later bel7
    have B7 : Hid (Below w'.heap.size w' w7) := below_on B6.out bel7
    clear i1 j1 bel7 B6 M1 M2 M3 T6 S6
    go_wp2_with fail
    refine (newNodeU w7 p s1 r1 r2 sa gt nt sc x y z S7.isSet T7 d4).mono ?_
    rintro e w8 ⟨va1, vc1, g1, q1, rfl, N8, V8, bel8, lq1, lg1⟩
    have M1 := M1'.later bel8
    have M2 := M2'.later bel8
    have M3 := M3'.later bel8
    have M5 := M4.later bel8
    have T8 := T7.later bel8
    have S8 := S7.later bel8
    have lgt : 0 < nt → gt < w7.heap.size := fun h => (T7 h).2.lt
    have lp7 := block_lt S7
    have lw7 := B7.out.size
    have B8 : Hid (Below w'.heap.size w' w8) := below_on B7.out bel8
    have hz8 := bel8.size
    clear bel8 B7 M1' M2' M3' M4 T7 S7
    go_wp2_with fail
    refine (newNodeU w8 p s2 r1 r2 sa gt nt sc x y z S8.isSet T8 d4).mono ?_
    rintro e w9 ⟨va2, vc2, g2, q2, rfl, N9, V9, bel9, lq2, lg2⟩
    have lq1' := block_lt N8
    have lg1' : 0 < nt → g1 < w8.heap.size := fun h => (V8 h).2.lt
    have M1' := M1.later bel9
    have M2' := M2.later bel9
    have M3' := M3.later bel9
    have M4' := M5.later bel9
    have T9 := T8.later bel9
    have S9 := S8.later bel9
    have NA := N8.later bel9
    have VA := V8.later bel9
    have B9 : Hid (Below w'.heap.size w' w9) := below_on B8.out bel9
    have SMA : Hid (SameS w9 r1 r3 nl ks) := same_of_Mp M1' M3' ZL.out (fun k hk => (DL.out k hk).1)
    have SMB : Hid (SameI w9 r2 r4 na nm) := sameI_of_Mp M2' M4' ZA.out DA.out
    have eq9 := eql43 NA N9 (by omega)
    clear bel9 B8 M1 M2 M3 M5 T8 S8 N8 V8
    go_wp2_with fail
    refine (fresh_any w9 q1 s1 r1 r2 r3 r4 va1 nt vc1 g1 x y z al nl cl bl ol ks vs ta ct bt ot aa na ca ba oa nm am NA VA.tv SMA.out SMB.out (HL.out.below B9.out) (HT.out.below B9.out) (HA.out.below B9.out) d3 d4 d5).mono ?_
    rintro e w10 ⟨rfl, bel10⟩
    have M1 := M1'.later bel10
    have M2 := M2'.later bel10
    have M3 := M3'.later bel10
    have M4 := M4'.later bel10
    have T10 := T9.later bel10
    have S10 := S9.later bel10
    have NA' := NA.later bel10
    have VA' := VA.later bel10
    have NB := N9.later bel10
    have VB := V9.later bel10
    have B10 : Hid (Below w'.heap.size w' w10) := below_on B9.out bel10
    have SMA' : Hid (SameS w10 r1 r3 nl ks) := same_of_Mp M1 M3 ZL.out (fun k hk => (DL.out k hk).1)
    have SMB' : Hid (SameI w10 r2 r4 na nm) := sameI_of_Mp M2 M4 ZA.out DA.out
    clear bel10 B9 M1' M2' M3' M4' T9 S9 NA VA N9 V9 eq9 SMA SMB M1 M2 M3 M4
    go_wp2_with fail
    refine (fresh_any w10 q2 s2 r1 r2 r3 r4 va2 nt vc2 g2 x y z al nl cl bl ol ks vs ta ct bt ot aa na ca ba oa nm am NB VB.tv SMA'.out SMB'.out (HL.out.below B10.out) (HT.out.below B10.out) (HA.out.below B10.out) d3 d4 d5).mono ?_
    rintro e w11 ⟨rfl, bel11⟩
    have T11 := T10.later bel11
    have S11 := S10.later bel11
    have NA := NA'.later bel11
    have VA := VA'.later bel11
    have N11 := NB.later bel11
    have V11 := VB.later bel11
    have B11 : Hid (Below w'.heap.size w' w11) := below_on B10.out bel11
    clear bel11 B10 T10 S10 NA' VA' NB VB SMA' SMB'
    by_cases hn : 0 < nt
    case neg =>
      go_wp2
      go_ret
      exact ⟨rfl, B11.out⟩
    obtain ⟨rfl, TA⟩ := VA hn
    obtain ⟨rfl, TB⟩ := V11 hn
    obtain ⟨rfl, TS⟩ := T11 hn
    have lgt' := lgt hn
    have lg1'' := lg1' hn
    have f1 : w11.cell? ⟨q1, 3, none⟩ = some (.slice (some ⟨g1, 0, none⟩) nt vc1) := by have := NA; unfold IsNode at this; simp [World.cell?, this]
    have f2 : w11.cell? ⟨g1, 0, none⟩ = some (.string (x 0)) := by have := ((TA.tv (c := 0)).2 0 hn).2.1; simpa using this
    have f3 : w11.frozen? ⟨g1, 0, none⟩ = false := by obtain ⟨cur, hg, _⟩ := TA; simp [World.frozen?, hg]
    have hx0 := (DT.out 0 hn).1
    have hn' : (0 : Int) < (nt : Int) := by omega
    have hadd := fun (w : World) => run_string_add_sum (P := Try.prog) w
    clear lg1' lgt VA V11 T11
    go_wp2
    go_region
    obtain ⟨w12, hw12⟩ : ∃ w12, w12 = (w11.setCell ⟨g1, 0, none⟩ (.string (x 0 ++ ⟨#[35]⟩))).drew := ⟨_, rfl⟩
    rw [← hw12]
    have bk : ∀ k, k ≠ g1 → w12.heap[k]? = w11.heap[k]? := fun k hk => by rw [hw12]; exact Below.heap_setCell w11 _ _ k hk
    have B12 : Hid (Below w'.heap.size w' w12) := by rw [hw12]; exact (B11.out.setCell (p := ⟨g1, 0, none⟩) (by show _ ≤ g1; omega) _).drew
    obtain ⟨tb, t1, t2, t3, _⟩ := (HT.out.below B12.out).2 0 hn
    have i1 : ∀ wx, (Instr.indexAt 32 (.slice ta nt ct) (.int .i64 0)).run Try.prog wx = .ok (.pointer (some ⟨bt, ot, none⟩)) wx := fun wx => by have := HT.out.1 0 hn wx; simpa using this
    have u0 : w12.cell? ⟨q2, 3, none⟩ = some (.slice (some ⟨g2, 0, none⟩) nt vc2) := by have := (bk q2 (by omega)).trans N11; simp [World.cell?, this]
    have u4 : w12.cell? ⟨p, 3, none⟩ = some (.slice (some ⟨gt, 0, none⟩) nt sc) := by have := (bk p (by omega)).trans S11; simp [World.cell?, this]
    obtain ⟨lg2', u1, u2, u3⟩ := ((TB.of_block (bk g2 (by omega))).tv (c := 0)).2 0 hn
    obtain ⟨lgt2, u5, u6, u7⟩ := ((TS.of_block (bk gt (by omega))).tv (c := 0)).2 0 hn
    have lq2' := World.block_lt_of_cell? w12 _ u0
    have lp' := World.block_lt_of_cell? w12 _ u4
    obtain ⟨s, hs⟩ : ∃ s, s = x 0 := ⟨_, rfl⟩
    obtain ⟨t, ht⟩ : ∃ s, s = y 0 := ⟨_, rfl⟩
    obtain ⟨u, hu⟩ : ∃ s, s = z 0 := ⟨_, rfl⟩
    rw [← hs] at t1 u1 u5
    rw [← ht] at t2 u2 u6
    rw [← hu] at t3 u3 u7
    simp only [Nat.zero_mul, Nat.zero_add, Nat.add_zero] at t1 t2 t3 u1 u2 u3 u5 u6 u7
    have hne := neq56 s t u
    have B12' : Below w'.heap.size w' w12.drew := B12.out.drew
    have lq2' : q2 < w12.heap.size := lq2'
    have lp' : p < w12.heap.size := lp'
    clear hs ht hu bk hw12 f1 f2 f3 TA TB TS NA N11 S11 hadd hx0 B11
    go_wp2
    go_region_held3 (fun w' => w'.cell? ⟨q2, 3, none⟩ = some (.slice (some ⟨g2, 0, none⟩) nt vc2) ∧ w'.cell? ⟨g2, 0, none⟩ = some (.string s) ∧ w'.cell? ⟨g2, 1, none⟩ = some (.string t) ∧ w'.cell? ⟨g2, 2, none⟩ = some (.string u) ∧
        w'.cell? ⟨p, 3, none⟩ = some (.slice (some ⟨gt, 0, none⟩) nt sc) ∧ w'.cell? ⟨gt, 0, none⟩ = some (.string s) ∧ w'.cell? ⟨gt, 1, none⟩ = some (.string t) ∧ w'.cell? ⟨gt, 2, none⟩ = some (.string u) ∧
        w'.cell? ⟨bt, ot, none⟩ = some (.string s) ∧ w'.cell? ⟨bt, ot + 1, none⟩ = some (.string t) ∧ w'.cell? ⟨bt, ot + 2, none⟩ = some (.string u))
      (first | go_keep | (go_split_ands; refine ⟨?_, ?_, ?_, ?_, ?_, ?_, ?_, ?_, ?_, ?_, ?_⟩ <;> (rw [BC.cell (by assumption)]; assumption)))
      ((go_at_call 22; refine (taint_any s t u _).mono ?_; rintro e wc ⟨rfl, BC⟩; have k1 : q2 < wc.heap.size := Nat.lt_of_lt_of_le (by assumption) BC.size; have k2 : g2 < wc.heap.size := Nat.lt_of_lt_of_le (by assumption) BC.size; have k3 : p < wc.heap.size := Nat.lt_of_lt_of_le (by assumption) BC.size; have k4 : gt < wc.heap.size := Nat.lt_of_lt_of_le (by assumption) BC.size; have k5 : bt < wc.heap.size := Nat.lt_of_lt_of_le (by assumption) BC.size; have BX : Below w'.heap.size w' wc := below_on (by assumption) BC))
    all_goals
      go_wp2
      go_ret
      exact ⟨rfl, BX⟩
end Go.Proofs.Qxb6608834a
