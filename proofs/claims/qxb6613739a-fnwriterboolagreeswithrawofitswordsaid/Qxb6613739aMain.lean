import Derived.Test.Qxb6613739aState
import Derived.Lib.Builder
namespace Go.Proofs.Qxb6613739a
open Go.RowKit

theorem has_made {w' : World} {base g n : Nat} (h : w'.ownsRow base 5 1 (.slice (some ⟨g, 0, none⟩) 0 n) 0 []) : Has w' 5 g n [] := by
  rcases h.2 with ⟨h0, _⟩ | ⟨g', cap, cur, hv, _, hg, h1, h2, h3, _⟩
  · cases h0
  · simp at hv
    obtain ⟨rfl, rfl⟩ := hv
    exact ⟨cur, hg, by simp, h2, by simpa using h3, by simp⟩

theorem info50 : (Try.prog.info? 50).isSome = true := by kernel_rfl
theorem neq_same (w : World) (p : Nat) : (binOp .neq 24 (.pointer (some ⟨p, 0, none⟩)) (.pointer (some ⟨p, 0, none⟩))).run Try.prog w = .ok (.bool false) w := by
  obtain ⟨j, hj⟩ := Option.isSome_iff_exists.1 info50
  exact Lib.run_neq_ptr_same w _ Try.underlying24 hj

theorem second_any (w : World) :
    Calls Try.prog 8 #[.int .i64 0] ((w.alloc (.cells #[] 5)).alloc (.cells #[.slice (some ⟨w.heap.size, 0, none⟩) 0 0, .bool false, .nilIface] 50)) fun e w' =>
      e = .returned (.pointer (some ⟨w.heap.size + 3, 0, none⟩)) ∧ St w.heap.size w w' (w.heap.size + 1) w.heap.size 0 [] false (w.heap.size + 3) (w.heap.size + 2) 0 [] false := by
  refine (newWriter_any _).mono ?_
  rintro e w' ⟨rfl, rfl⟩
  refine ⟨by simp, ?_⟩
  have := St.start w
  simpa using this

set_option maxHeartbeats 1000000 in
theorem main_t (a : Option Addr) (len cap : Nat) (zs : List Int) (b : Bool) (w : World) (hl : len ≤ 65536)
    (h : (a = none ∧ len = 0 ∧ cap = 0 ∧ zs = []) ∨ ∃ x, a = some x ∧ len ≤ cap ∧ cap ≤ maxLen ∧ zs.length = cap ∧ (∀ i, i < zs.length → w.cell? (x.add i) = some (.int .u8 (zs.getD i 0))) ∧ ∀ n ∈ zs, (Lit.int .u8 n).wf = true) :
    Calls Try.prog 4 #[.slice a len cap, .bool true, .bool b] w fun e w' => e = .returned (.bool true) ∧ Below w.heap.size w w' := by
  obtain ⟨i0, hi, hz0, hz1, hz2⟩ := info_parts info5
  have hlz : (zs.take len).length = len := by
    rcases h with ⟨_, rfl, _, rfl⟩ | ⟨x, _, h1, _, h2, _⟩
    · rfl
    · simp; omega
  obtain ⟨pre, hpre, hlp⟩ : ∃ pre, Hid (pre = (zs.take len).map (Value.int .u8)) ∧ pre.length = len := ⟨_, rfl, by rw [List.length_map]; exact hlz⟩
  have HS : ∀ w', Hid (∀ k, k < w.heap.size → w'.heap[k]? = w.heap[k]?) → Src Try.prog 1 27 (.slice a len cap) len pre w' := fun w' hb => by rw [hpre.out]; exact src_given h hb
  have HZ : Hid ((zs.take len).length = len) := hlz
  clear h hlz
  have hwl := wordB_le b
  have hneq := neq_same
  have hconv := fun w s => run_bytes_of_string (P := Try.prog) w 9 27 5 s Try.underlying9 Try.underlying27 Try.underlying5
  go_enter Try.func4, Try.ntmps4
  go_wp2_with fail
  refine (bytes_any a len cap true b w (by omega)).mono ?_
  rintro e w' ⟨rfl, rfl⟩
  have hd : decide (len ≤ 1048576) = true := by simp; omega
  rw [hd]
  clear hd
  go_wp2_with fail
  refine (word_any b _).mono ?_
  rintro e w' ⟨rfl, rfl⟩
  go_wp2_with fail
  refine (newWriter_any _).mono ?_
  rintro e w1 ⟨rfl, rfl⟩
  go_wp2_with fail
  refine (second_any _).mono ?_
  rintro e w2 ⟨rfl, S2⟩
  go_wp2_with fail
  refine (raw_any w2 _ _ _ _ _ S2.fst (by simp) a len cap pre (by omega) (fun w' ht => HS w' (S2.old ht))).mono ?_
  rintro e w3 ⟨rfl, g3, c3, W3, T3, G3⟩
  have S3 := S2.step1 W3 T3 G3
  clear S2 W3 T3 G3
  go_wp2_with fail
  refine (raw_any w3 _ _ _ _ _ S3.snd (by simp) a len cap pre (by omega) (fun w' ht => HS w' (S3.swap.old ht))).mono ?_
  rintro e w4 ⟨rfl, g4, c4, W4, T4, G4⟩
  have S4 := S3.step2 W4 T4 G4
  clear S3 W4 T4 G4
  go_wp2_with fail
  refine (bool_any w4 _ _ _ _ _ b S4.fst (by simp [sep, hlp]; omega)).mono ?_
  rintro e w5 ⟨rfl, g5, c5, W5, T5, G5⟩
  have S5 := S4.step1 W5 T5 G5
  clear S4 W5 T5 G5
  go_wp2_with fail
  have hb6 : ∀ O, ((w5.alloc O).drew).heap[w5.heap.size]? = some O := fun O => heap_alloc_new w5 O
  have S6 := fun O => S5.grown (w' := (w5.alloc O).drew) (row := none) ⟨rfl, rfl, rfl, by simp, fun k hk _ => Below.heap_alloc w5 O k hk⟩ (fun k hk => by cases hk)
  have q1 := S5.snd.lt
  have q2 := S5.snd.2.lt
  refine (raw_any _ _ _ _ _ _ (S6 _).snd (by simp [sep, hlp]; omega) _ _ _ (wordCells b) (by omega) (fun w' ht => src_conv b w' _ _ _ _ ((ht.block w5.heap.size (by simp) (by omega) (by omega)).trans (hb6 _)) rfl _)).mono ?_
  rintro e w7 ⟨rfl, g7, c7, W7, T7, G7⟩
  have S7 := (S6 _).step2 W7 T7 G7
  clear S6 S5 W7 T7 G7 hb6 q1 q2 hconv hneq
  go_wp2_with (at_make; refine wpList_make_own _ rfl _ _ 27 rfl 0 5 i0 (.int .u8 0) 1 Try.underlying27 hi hz0 hz1 _ _ _ (len + 6) rfl rfl (by omega) (by rw [hz2]; omega) (by unfold maxLen; omega) (Nat.zero_le _) ?_)
  intro w8 own8 grow8
  have H8 := has_made own8
  obtain ⟨X, hX, S8⟩ : ∃ X, Hid (X = pre ++ [Value.int .u8 44] ++ wordCells b) ∧ St w'.heap.size w' w8 (w'.heap.size + 1) g5 c5 X true (w'.heap.size + 3) g7 c7 X true :=
    ⟨pre ++ [Value.int .u8 44] ++ wordCells b, rfl, by have := S7.grown grow8 (fun k hk => by cases hk); simpa [sep] using this⟩
  have D8 := S7.new
  obtain ⟨g8, hg8⟩ : ∃ g, g = w7.heap.size := ⟨_, rfl⟩
  rw [← hg8] at D8 H8 ⊢
  clear S7 own8 grow8 hg8
  have P8 := HS w8 S8.below.block
  clear HS
  go_wp2_with (at_builtin; refine wpList_append_has _ rfl _ _ 27 27 rfl 5 i0 (.int .u8 0) 1 Try.underlying27 hi hz0 hz1 hz2 rfl g8 (len + 6) 0 [] rfl rfl H8 _ rfl len pre P8 (by unfold maxLen; omega) (by omega) ?_)
  intro g9 c9 w9 H9 grow9 hat9
  obtain ⟨S9, D9⟩ := S8.app D8 grow9 hat9
  clear S8 D8 grow9 hat9 P8 H8
  replace H9 : Has w9 5 g9 c9 pre := H9
  go_wp2_with (at_builtin; refine wpList_append_has _ rfl _ _ 27 27 rfl 5 i0 (.int .u8 0) 1 Try.underlying27 hi hz0 hz1 hz2 rfl g9 c9 len pre hlp rfl (H9.of_block (Below.heap_alloc _ _ _ H9.lt)) _ rfl 1 [.int .u8 44] (Src.ofSlice _ Try.underlying27 ⟨w9.heap.size, 0, none⟩ 1 1 [.int .u8 44] rfl (cell_one_new _ _ _) (by simp [Value.oneCell'])) (by unfold maxLen; omega) (by omega) ?_)
  intro g10 c10 w10 H10 grow10 hat10
  obtain ⟨S10, D10⟩ := (S9.grown (World.grownBy_alloc w9 _ none) (fun k hk => by cases hk)).app D9 grow10 (by simpa using hat10)
  clear S9 D9 grow10 hat10 H9
  go_wp2_with (at_builtin; refine wpList_append_has _ rfl _ _ 27 9 rfl 5 i0 (.int .u8 0) 1 Try.underlying27 hi hz0 hz1 hz2 rfl g10 c10 (len + 1) (pre ++ [.int .u8 44]) (by simp [hlp]) rfl H10 _ rfl _ _ (src_word b _) (by unfold maxLen; omega) (by omega) ?_)
  intro g11 c11 w11 H11 grow11 hat11
  obtain ⟨S11, _⟩ := S10.app D10 grow11 hat11
  clear S10 D10 grow11 hat11 H10
  obtain ⟨Z, hZ, hZ1⟩ : ∃ Z : List Int, Hid (X = Z.map (Value.int .u8)) ∧ Hid (Z.length = len + 1 + (wordB b).size) :=
    ⟨zs.take len ++ [44] ++ wordZ b, by rw [hX.out, hpre.out, wordCells_eq]; simp [Hid], by have := HZ.out; simp only [Hid, List.length_append, this, wordZ_len]; rfl⟩
  replace H11 : Has w11 5 g11 c11 (Z.map (Value.int .u8)) := by rw [← hZ.out, hX.out]; simpa using H11
  rw [hZ.out] at S11
  have hZ2 : Hid (Z.length ≤ 4194304) := by have := hZ1.out; simp only [Hid]; omega
  go_wp2_with fail
  refine (buf_any _ _ _ _ _ _ S11.fst).mono ?_
  rintro e w12 ⟨rfl, rfl⟩
  go_wp2_with fail
  refine (equal_two _ _ _ _ _ _ _ Z (by simp) (by rw [hZ1.out]) hZ2.out S11.fst.2 H11).mono ?_
  rintro e w13 ⟨rfl, nq, rfl⟩
  have S13 := S11.drewN nq
  go_wp2_with fail
  refine (buf_any _ _ _ _ _ _ S13.snd).mono ?_
  rintro e w14 ⟨rfl, rfl⟩
  go_wp2_with fail
  refine (equal_two _ _ _ _ _ _ _ Z (by simp) (by rw [hZ1.out]) hZ2.out S13.snd.2 (H11.of_block rfl)).mono ?_
  rintro e w15 ⟨rfl, nr, rfl⟩
  have S15 := S11.drewN (nq + nr)
  go_wp2_with fail
  refine (more_any _ _ _ _ _ _ S15.fst).mono ?_
  rintro e w16 ⟨rfl, rfl⟩
  go_wp2_with fail
  refine (more_any _ _ _ _ _ _ S15.snd).mono ?_
  rintro e w17 ⟨rfl, rfl⟩
  go_wp2_with fail
  refine (err_any _ _ _ _ _ _ S15.fst).mono ?_
  rintro e w18 ⟨rfl, rfl⟩
  go_wp2
  go_ret
  exact ⟨rfl, S15.below⟩
set_option maxHeartbeats 1000000 in
theorem main_f (a : Option Addr) (len cap : Nat) (b : Bool) (w : World) (hl : len ≤ 65536) :
    Calls Try.prog 4 #[.slice a len cap, .bool false, .bool b] w fun e w' => e = .returned (.bool true) ∧ Below w.heap.size w w' := by
  obtain ⟨i0, hi, hz0, hz1, hz2⟩ := info_parts info5
  have hwl := wordB_le b
  have hneq := neq_same
  have hconv := fun w s => run_bytes_of_string (P := Try.prog) w 9 27 5 s Try.underlying9 Try.underlying27 Try.underlying5
  go_enter Try.func4, Try.ntmps4
  go_wp2_with fail
  refine (bytes_any a len cap false b w (by omega)).mono ?_
  rintro e w' ⟨rfl, rfl⟩
  have hd : decide (len ≤ 1048576) = true := by simp; omega
  rw [hd]
  clear hd
  go_wp2_with fail
  refine (word_any b _).mono ?_
  rintro e w' ⟨rfl, rfl⟩
  go_wp2_with fail
  refine (newWriter_any _).mono ?_
  rintro e w1 ⟨rfl, rfl⟩
  go_wp2_with fail
  refine (second_any _).mono ?_
  rintro e w2 ⟨rfl, S2⟩
  go_wp2_with fail
  refine (bool_any w2 _ _ _ _ _ b S2.fst (by simp)).mono ?_
  rintro e w5 ⟨rfl, g5, c5, W5, T5, G5⟩
  have S5 := S2.step1 W5 T5 G5
  clear S2 W5 T5 G5
  go_wp2_with fail
  have hb6 : ∀ O, ((w5.alloc O).drew).heap[w5.heap.size]? = some O := fun O => heap_alloc_new w5 O
  have S6 := fun O => S5.grown (w' := (w5.alloc O).drew) (row := none) ⟨rfl, rfl, rfl, by simp, fun k hk _ => Below.heap_alloc w5 O k hk⟩ (fun k hk => by cases hk)
  have q1 := S5.snd.lt
  have q2 := S5.snd.2.lt
  refine (raw_any _ _ _ _ _ _ (S6 _).snd (by simp) _ _ _ (wordCells b) (by omega) (fun w' ht => src_conv b w' _ _ _ _ ((ht.block w5.heap.size (by simp) (by omega) (by omega)).trans (hb6 _)) rfl _)).mono ?_
  rintro e w7 ⟨rfl, g7, c7, W7, T7, G7⟩
  have S7 := (S6 _).step2 W7 T7 G7
  clear S6 S5 W7 T7 G7 hb6 q1 q2 hconv hneq
  go_wp2_with (at_make; refine wpList_make_own _ rfl _ _ 27 rfl 0 5 i0 (.int .u8 0) 1 Try.underlying27 hi hz0 hz1 _ _ _ (len + 6) rfl rfl (by omega) (by rw [hz2]; omega) (by unfold maxLen; omega) (Nat.zero_le _) ?_)
  intro w8 own8 grow8
  have H8 := has_made own8
  obtain ⟨X, hX, S8⟩ : ∃ X, Hid (X = wordCells b) ∧ St w'.heap.size w' w8 (w'.heap.size + 1) g5 c5 X true (w'.heap.size + 3) g7 c7 X true :=
    ⟨wordCells b, rfl, by have := S7.grown grow8 (fun k hk => by cases hk); simpa [sep] using this⟩
  have D8 := S7.new
  obtain ⟨g8, hg8⟩ : ∃ g, g = w7.heap.size := ⟨_, rfl⟩
  rw [← hg8] at D8 H8 ⊢
  clear S7 own8 grow8 hg8
  go_wp2_with (at_builtin; refine wpList_append_has _ rfl _ _ 27 9 rfl 5 i0 (.int .u8 0) 1 Try.underlying27 hi hz0 hz1 hz2 rfl g8 (len + 6) 0 [] rfl rfl H8 _ rfl _ _ (src_word b _) (by unfold maxLen; omega) (by omega) ?_)
  intro g11 c11 w11 H11 grow11 hat11
  obtain ⟨S11, _⟩ := S8.app D8 grow11 hat11
  clear S8 D8 grow11 hat11 H8
  obtain ⟨Z, hZ, hZ1⟩ : ∃ Z : List Int, Hid (X = Z.map (Value.int .u8)) ∧ Hid (Z.length = (wordB b).size) :=
    ⟨wordZ b, by rw [hX.out, wordCells_eq]; rfl, wordZ_len b⟩
  replace H11 : Has w11 5 g11 c11 (Z.map (Value.int .u8)) := by rw [← hZ.out, hX.out]; simpa using H11
  rw [hZ.out] at S11
  have hZ2 : Hid (Z.length ≤ 4194304) := by have := hZ1.out; simp only [Hid]; omega
  go_wp2_with fail
  refine (buf_any _ _ _ _ _ _ S11.fst).mono ?_
  rintro e w12 ⟨rfl, rfl⟩
  go_wp2_with fail
  refine (equal_two _ _ _ _ _ _ _ Z (by simp) (by rw [hZ1.out]) hZ2.out S11.fst.2 H11).mono ?_
  rintro e w13 ⟨rfl, nq, rfl⟩
  have S13 := S11.drewN nq
  go_wp2_with fail
  refine (buf_any _ _ _ _ _ _ S13.snd).mono ?_
  rintro e w14 ⟨rfl, rfl⟩
  go_wp2_with fail
  refine (equal_two _ _ _ _ _ _ _ Z (by simp) (by rw [hZ1.out]) hZ2.out S13.snd.2 (H11.of_block rfl)).mono ?_
  rintro e w15 ⟨rfl, nr, rfl⟩
  have S15 := S11.drewN (nq + nr)
  go_wp2_with fail
  refine (more_any _ _ _ _ _ _ S15.fst).mono ?_
  rintro e w16 ⟨rfl, rfl⟩
  go_wp2_with fail
  refine (more_any _ _ _ _ _ _ S15.snd).mono ?_
  rintro e w17 ⟨rfl, rfl⟩
  go_wp2_with fail
  refine (err_any _ _ _ _ _ _ S15.fst).mono ?_
  rintro e w18 ⟨rfl, rfl⟩
  go_wp2
  go_ret
  exact ⟨rfl, S15.below⟩
set_option maxHeartbeats 400000 in
theorem main_long (a : Option Addr) (len cap : Nat) (s b : Bool) (w : World) (hl : ¬ len ≤ 65536) (hm : len ≤ 9223372036854775807) :
    Calls Try.prog 4 #[.slice a len cap, .bool s, .bool b] w fun e w' => e = .returned (.bool true) ∧ Below w.heap.size w w' := by
  go_enter Try.func4, Try.ntmps4
  go_wp2_with fail
  refine (bytes_any a len cap s b w hm).mono ?_
  rintro e w' ⟨rfl, rfl⟩
  by_cases hd : len ≤ 1048576
  · rw [decide_eq_true hd]
    go_wp2
    go_ret
    exact ⟨rfl, Below.refl _ _⟩
  · rw [decide_eq_false hd]
    go_wp2
    go_ret
    exact ⟨rfl, Below.refl _ _⟩

theorem main_any (a : Option Addr) (len cap : Nat) (zs : List Int) (s b : Bool) (w : World)
    (h : (a = none ∧ len = 0 ∧ cap = 0 ∧ zs = []) ∨ ∃ x, a = some x ∧ len ≤ cap ∧ cap ≤ maxLen ∧ zs.length = cap ∧ (∀ i, i < zs.length → w.cell? (x.add i) = some (.int .u8 (zs.getD i 0))) ∧ ∀ n ∈ zs, (Lit.int .u8 n).wf = true) :
    Calls Try.prog 4 #[.slice a len cap, .bool s, .bool b] w fun e w' => e = .returned (.bool true) ∧ Below w.heap.size w w' := by
  by_cases hl : len ≤ 65536
  · cases s with
    | true => exact main_t a len cap zs b w hl h
    | false => exact main_f a len cap b w hl
  · refine main_long a len cap s b w hl ?_
    rcases h with ⟨_, rfl, _, rfl⟩ | ⟨x, _, h1, h2, _⟩
    · omega
    · unfold maxLen at h2; omega
end Go.Proofs.Qxb6613739a
