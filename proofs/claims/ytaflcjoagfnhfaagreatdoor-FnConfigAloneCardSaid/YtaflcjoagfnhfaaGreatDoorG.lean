/- Walks: the bit writers of the reference's packers: after each call so many bits stand there, in as many bytes as they take; nothing else has changed. -/
import Derived.Test.YtaflcjoagfnhfaaGreatDoorF
namespace Go.Proofs.YtaflcjoagfnhfaaGreatDoor
namespace V
open Go Go.Proofs

/-- The bytes of a list. -/
def by8 (l : List Int) : List Value := l.map (Value.int .u8 ·)
theorem by8_length (l : List Int) : (by8 l).length = l.length := by simp [by8]
theorem by8_get {l : List Int} {k : Nat} (h : k < l.length) : (by8 l)[k]? = some (.int .u8 (l.getD k 0)) := by
  simp [by8, List.getElem?_eq_getElem h, List.getD_eq_getElem?_getD]
theorem by8_set (l : List Int) (k : Nat) (b : Int) : (by8 l).set k (.int .u8 b) = by8 (l.set k b) := by simp [by8, List.map_set]
theorem by8_append (l m : List Int) : by8 l ++ by8 m = by8 (l ++ m) := by simp [by8]
theorem by8_one (l : List Int) : ∀ u ∈ by8 l, u.oneCell' = true := by
  intro u hu; simp only [by8, List.mem_map] at hu; obtain ⟨x, _, rfl⟩ := hu; rfl

/-- A writer of n bits at block g. -/
def Wr (T : TypeId) (g n : Nat) (F S : List As) : Prop :=
  ∃ A c l, l.length = (n + 7) / 8 ∧ S = blk g [.slice A ((n + 7) / 8) c, .int .i64 (n : Int)] T :: own (.slice A ((n + 7) / 8) c) 5 1 ((n + 7) / 8) (by8 l) :: F

theorem wr_mk {T g n m : Nat} {F : List As} {A : Option Addr} {c : Nat} {l : List Int} (hm : (n + 7) / 8 = m) (hl : l.length = m) : Wr T g n F (blk g [.slice A m c, .int .i64 (n : Int)] T :: own (.slice A m c) 5 1 m (by8 l) :: F) := by
  subst hm; exact ⟨A, c, l, hl, rfl⟩

set_option maxRecDepth 100000 in
theorem one_spec {F : List As} (g n : Nat) (b : Int) (hn : n ≤ 1000000000) {S : List As} (hS : Wr 128 g n F S) :
    Fun Tryz.prog 41 [.pointer (some ⟨g, 0, none⟩), .int .i64 b] S (fun v T => v = .tuple #[] ∧ Wr 128 g (n + 1) F T) := by
  obtain ⟨A0, c0, l0, hl, rfl⟩ := hS
  refine fun_intro Tryz.func41 rfl Tryz.ntmps41 (Nat.le_of_ble_eq_true rfl) ?_
  refine c_cut (α := (Option Addr) × (Nat) × (List Int)) (fun gg => gg.2.2.length = n / 8 + 1) (fun gg => [(0, .pointer (some ⟨g, 0, none⟩)), (1, .int .i64 b)]) (fun gg => blk g [.slice gg.1 (n / 8 + 1) gg.2.1, .int .i64 (n : Int)] 128 :: own (.slice gg.1 (n / 8 + 1) gg.2.1) 5 1 (n / 8 + 1) (by8 gg.2.2) :: F) ?_ ?_
  · refine c_seq ?_
    refine c_region ?_
    refine s1 (p_move rfl) rfl rfl rfl ?_
    refine s1 (p_nilCheck rfl) rfl rfl rfl ?_
    refine s1 (p_fieldAddr (fun w => fa128_1 _ w) rfl) rfl rfl rfl ?_
    refine s1 (p_load m0 Tryz.underlying3 rfl rfl rfl) rfl rfl rfl ?_
    refine s1 (p_rem rfl rfl (by omega) (tm (by omega))) rfl rfl rfl ?_
    refine s1 (p_eq rfl rfl) rfl rfl rfl ?_
    refine s_nil ?_
    refine x_next ?_
    refine c_if rfl (fun h9 => ?_) (fun h9 => ?_)
    · refine c_region ?_
      refine s1 (p_move rfl) rfl rfl rfl ?_
      refine s1 (p_move rfl) rfl rfl rfl ?_
      refine s1 (p_nilCheck rfl) rfl rfl rfl ?_
      refine s1 (p_fieldAddr (fun w => fa128_0 _ w) rfl) rfl rfl rfl ?_
      refine s1 (p_load m0 Tryz.underlying23 rfl rfl rfl) rfl rfl rfl ?_
      refine s_step (st_buildSlice (e := 5) (size := 1) rfl (fun w => bs23_1 _ w) rfl (by omega)) rfl rfl rfl ?_
      rintro _ _ ⟨g1, rfl, rfl⟩
      refine s_perm f2 ?_
      refine s_step (st_append (v := .slice A0 ((n + 7) / 8) c0) (xs := by8 l0) (ys := [.int .u8 0]) Tryz.underlying23 inf5 rfl (by decide) rfl rfl (rd_own m1) (by simp [Value.oneCell']) ⟨by omega, by omega⟩) rfl rfl rfl ?_
      rintro _ _ ⟨A1, c1, rfl, rfl⟩
      refine s1 (p_nilCheck rfl) rfl rfl rfl ?_
      refine s1 (p_fieldAddr (fun w => fa128_0 _ w) rfl) rfl rfl rfl ?_
      refine s_perm f2 ?_
      refine s_step0 (st_store rfl rfl rfl sz23 (by simp)) rfl rfl ?_
      rintro _ _ rfl
      refine s_perm f2 ?_
      refine s_sat drop0 ?_
      refine s_nil ?_
      have e : by8 l0 ++ [.int .u8 0] = by8 (l0 ++ [0]) := by simp [by8]
      rw [e]
      have e2 : (n + 7) / 8 + 1 = n / 8 + 1 := by omega
      rw [e2]
      exact x_cut ⟨A1, c1, l0 ++ [0]⟩ (by simp [hl]; omega) ⟨rfl, rfl, trivial⟩ ((f1).trans f1)
    · refine c_skip ?_
      have e2 : (n + 7) / 8 = n / 8 + 1 := by omega
      rw [e2]
      exact x_cut ⟨A0, c0, l0⟩ (by rw [hl]; omega) ⟨rfl, rfl, trivial⟩ ((f1).trans f1)
  · rintro ⟨A, c, l⟩ hI
    replace hI : l.length = n / 8 + 1 := hI
    refine c_sub (L' := [(0, .pointer (some ⟨g, 0, none⟩)), (1, .int .i64 b)]) ⟨rfl, rfl, trivial⟩ ?_
    refine c_perm (T := blk g [.slice A (n / 8 + 1) c, .int .i64 (n : Int)] 128 :: own (.slice A (n / 8 + 1) c) 5 1 (n / 8 + 1) (by8 l) :: F) f0 ?_
    refine c_seq ?_
    refine c_draw 21 (blk g [.slice A (n / 8 + 1) c, .int .i64 (n : Int)] 128 :: own (.slice A (n / 8 + 1) c) 5 1 (n / 8 + 1) (by8 l) :: F) mixed ?_
    refine d_take 0 rfl (p_move rfl) rfl rfl rfl (by kernel_rfl) (fun _ h => h) ?_
    refine d_take 1 rfl (p_nilCheck rfl) rfl rfl rfl (by kernel_rfl) (fun _ h => h) ?_
    refine d_take 2 rfl (p_fieldAddr (fun w => fa128_0 _ w) rfl) rfl rfl rfl (by kernel_rfl) (fun _ h => h) ?_
    refine d_take 3 rfl (p_load m0 Tryz.underlying23 rfl rfl rfl) rfl rfl rfl (by kernel_rfl) (fun _ h => h) ?_
    refine d_take 4 rfl (p_move rfl) rfl rfl rfl (by kernel_rfl) (fun _ h => h) ?_
    refine d_take 5 rfl (p_nilCheck rfl) rfl rfl rfl (by kernel_rfl) (fun _ h => h) ?_
    refine d_take 6 rfl (p_fieldAddr (fun w => fa128_1 _ w) rfl) rfl rfl rfl (by kernel_rfl) (fun _ h => h) ?_
    refine d_take 7 rfl (p_load m0 Tryz.underlying3 rfl rfl rfl) rfl rfl rfl (by kernel_rfl) (fun _ h => h) ?_
    refine d_take 8 rfl (p_quo rfl rfl (by omega) (q64 (by omega))) rfl rfl rfl (by kernel_rfl) (fun _ h => h) ?_
    refine d_take 9 rfl (p_index (kk := n / 8) Tryz.underlying23 sz5 rfl rfl (rd_own m1) (by omega) (by omega) (by omega)) rfl rfl rfl (by kernel_rfl) (fun _ h => h) ?_
    refine d_take 10 rfl (p_loadE Tryz.underlying5 rfl rfl (rd_own m1) (by8_get (by omega))) rfl rfl rfl (by kernel_rfl) (fun _ h => h) ?_
    refine d_take 11 rfl (p_move rfl) rfl rfl rfl (by kernel_rfl) (fun _ h => h) ?_
    refine d_take 12 rfl (p_move rfl) rfl rfl rfl (by kernel_rfl) (fun _ h => h) ?_
    refine d_take 13 rfl (p_nilCheck rfl) rfl rfl rfl (by kernel_rfl) (fun _ h => h) ?_
    refine d_take 14 rfl (p_fieldAddr (fun w => fa128_1 _ w) rfl) rfl rfl rfl (by kernel_rfl) (fun _ h => h) ?_
    refine d_take 15 rfl (p_load m0 Tryz.underlying3 rfl rfl rfl) rfl rfl rfl (by kernel_rfl) (fun _ h => h) ?_
    refine d_take 16 rfl (p_rem rfl rfl (by omega) (tm (by omega))) rfl rfl rfl (by kernel_rfl) (fun _ h => h) ?_
    refine d_take 17 rfl (p_shl rfl rfl (by omega) rfl) rfl rfl rfl (by kernel_rfl) (fun _ h => h) ?_
    refine d_take 18 rfl (p_conv Tryz.underlying3 Tryz.underlying5 rfl rfl) rfl rfl rfl (by kernel_rfl) (fun _ h => h) ?_
    refine d_take 19 rfl (p_or rfl rfl rfl) rfl rfl rfl (by kernel_rfl) (fun _ h => h) ?_
    refine d_take 20 rfl (p_index (kk := n / 8) Tryz.underlying23 sz5 rfl rfl (rd_own m1) (by omega) (by omega) (by omega)) rfl rfl rfl (by kernel_rfl) (fun _ h => h) ?_
    refine h_perm f1 ?_
    refine d_step0 21 rfl (by kernel_rfl) (st_storeE rfl rfl rfl sz5 (by omega)) rfl rfl ?_
    rintro _ _ rfl
    refine ⟨fun h => absurd rfl h, ?_⟩
    refine d_done (by kernel_rfl) ?_
    rw [by8_set]
    refine x_next ?_
    refine c_region ?_
    refine s1 (p_move rfl) rfl rfl rfl ?_
    refine s1 (p_nilCheck rfl) rfl rfl rfl ?_
    refine s1 (p_fieldAddr (fun w => fa128_1 _ w) rfl) rfl rfl rfl ?_
    refine s1 (p_load m1 Tryz.underlying3 rfl rfl rfl) rfl rfl rfl ?_
    refine s1 (p_add rfl rfl (w64 (by omega))) rfl rfl rfl ?_
    refine s1 (p_nilCheck rfl) rfl rfl rfl ?_
    refine s1 (p_fieldAddr (fun w => fa128_1 _ w) rfl) rfl rfl rfl ?_
    refine s_perm f1 ?_
    refine s_step0 (st_store rfl rfl rfl sz3 (by simp)) rfl rfl ?_
    rintro _ _ rfl
    refine s_nil ?_
    exact x_done_none rfl ⟨rfl, wr_mk (m := n / 8 + 1) (by omega) (by simp [hI])⟩

set_option maxRecDepth 100000 in
theorem many_spec {F : List As} (g n k : Nat) (v kk : Int) (hkk : kk = (k : Int)) (hn : n + k ≤ 1000000000) {S : List As} (hS : Wr 128 g n F S) :
    Fun Tryz.prog 42 [.pointer (some ⟨g, 0, none⟩), .int .i64 v, .int .i64 kk] (S) (fun u T => u = .tuple #[] ∧ Wr 128 g (n + k) F T) := by
  subst hkk
  refine fun_intro Tryz.func42 rfl Tryz.ntmps42 (Nat.le_of_ble_eq_true rfl) ?_
  refine c_seq ?_
  refine c_region ?_
  refine s1 (p_move rfl) rfl rfl rfl ?_
  refine s1 (p_move rfl) rfl rfl rfl ?_
  refine s_nil ?_
  refine x_next ?_
  refine c_block ?_
  refine c_loop (α := (Nat) × (List As)) (fun gg => gg.1 ≤ k ∧ Wr 128 g (n + gg.1) F gg.2) (fun gg => k - gg.1) (fun gg => [(0, .pointer (some ⟨g, 0, none⟩)), (1, .int .i64 v), (7, .int .i64 (k : Int)), (8, .int .i64 (gg.1 : Int))]) (fun gg => gg.2) ⟨0, S⟩ (⟨Nat.zero_le _, hS⟩) ⟨rfl, rfl, rfl, rfl, trivial⟩ (f0) ?_
  rintro ⟨j, T⟩ hI
  replace hI : j ≤ k ∧ Wr 128 g (n + j) F T := hI
  obtain ⟨hj, hT⟩ := hI
  refine c_sub (L' := [(0, .pointer (some ⟨g, 0, none⟩)), (1, .int .i64 v), (7, .int .i64 (k : Int)), (8, .int .i64 (j : Int))]) ⟨rfl, rfl, rfl, rfl, trivial⟩ ?_
  refine c_perm (T := T) f0 ?_
  refine c_seq ?_
  refine c_region ?_
  refine s1 (p_lt rfl rfl) rfl rfl rfl ?_
  refine s_nil ?_
  refine x_next ?_
  refine c_seq ?_
  refine c_if rfl (fun h9 => ?_) (fun h9 => ?_)
  · refine c_skip ?_
    refine x_next ?_
    refine c_seq ?_
    refine c_block ?_
    refine c_seq ?_
    refine c_region ?_
    refine s1 (p_move rfl) rfl rfl rfl ?_
    refine s1 (p_assign rfl) rfl rfl rfl ?_
    refine s_nil ?_
    refine x_next ?_
    refine c_region ?_
    refine s1 (p_move rfl) rfl rfl rfl ?_
    refine s1 (p_move rfl) rfl rfl rfl ?_
    refine s1 (p_move rfl) rfl rfl rfl ?_
    refine s1 (p_shr rfl rfl (by omega) rfl) rfl rfl rfl ?_
    refine s1 (p_and rfl rfl rfl) rfl rfl rfl ?_
    refine s_step (st_call Tryz.func41 nm41 bo41 rfl (one_spec g (n + j) _ (by omega) hT)) rfl rfl rfl ?_
    rintro _ T1 ⟨rfl, hT1⟩
    refine s_nil ?_
    refine x_block ?_
    refine x_next ?_
    refine c_region ?_
    refine s1 (p_add rfl rfl (w64 (by omega))) rfl rfl rfl ?_
    refine s1 (p_move rfl) rfl rfl rfl ?_
    refine s_nil ?_
    exact x_loop ⟨j + 1, T1⟩ (⟨by omega, by rw [← Nat.add_assoc]; exact hT1⟩) (by show k - (j + 1) < k - j; omega) ⟨rfl, rfl, rfl, rfl, trivial⟩ (f0)
  · refine c_exit ?_
    refine x_exit_then ?_
    refine x_exit_then ?_
    refine x_exit_here ?_
    obtain rfl : j = k := by omega
    exact x_done_none rfl ⟨rfl, hT⟩

set_option maxRecDepth 100000 in
theorem wword_spec {F : List As} (g n k : Nat) (v : Int) (hk : 1 ≤ k) (hn : n + k ≤ 1000000000) {S : List As} (hS : Wr 128 g n F S) :
    Fun Tryz.prog 53 [.pointer (some ⟨g, 0, none⟩), .int .i64 v, .int .i64 (k : Int)] (S) (fun u T => u = .tuple #[] ∧ Wr 128 g (n + k) F T) := by
  refine fun_intro Tryz.func53 rfl Tryz.ntmps53 (Nat.le_of_ble_eq_true rfl) ?_
  refine c_seq ?_
  refine c_region ?_
  refine s1 (p_move rfl) rfl rfl rfl ?_
  refine s1 (p_sub rfl rfl (w64 (by omega))) rfl rfl rfl ?_
  refine s1 (p_assign rfl) rfl rfl rfl ?_
  refine s_nil ?_
  refine x_next ?_
  refine c_block ?_
  refine c_loop (α := (Nat) × (List As)) (fun gg => gg.1 ≤ k ∧ Wr 128 g (n + gg.1) F gg.2) (fun gg => k - gg.1) (fun gg => [(0, .pointer (some ⟨g, 0, none⟩)), (1, .int .i64 v), (6, .int .i64 ((k : Int) - 1 - (gg.1 : Int)))]) (fun gg => gg.2) ⟨0, S⟩ (⟨Nat.zero_le _, hS⟩) ⟨rfl, rfl, (by show some (Value.int .i64 ((k : Int) - 1)) = some (Value.int .i64 ((k : Int) - 1 - ((0 : Nat) : Int))); congr 2; omega), trivial⟩ (f0) ?_
  rintro ⟨j, T⟩ hI
  replace hI : j ≤ k ∧ Wr 128 g (n + j) F T := hI
  obtain ⟨hj, hT⟩ := hI
  refine c_sub (L' := [(0, .pointer (some ⟨g, 0, none⟩)), (1, .int .i64 v), (6, .int .i64 ((k : Int) - 1 - (j : Int)))]) ⟨rfl, rfl, rfl, trivial⟩ ?_
  refine c_perm (T := T) f0 ?_
  refine c_seq ?_
  refine c_seq ?_
  refine c_region ?_
  refine s1 (p_move rfl) rfl rfl rfl ?_
  refine s1 (p_ge rfl rfl) rfl rfl rfl ?_
  refine s_nil ?_
  refine x_next ?_
  refine c_if rfl (fun h9 => ?_) (fun h9 => ?_)
  · refine c_skip ?_
    refine x_next ?_
    refine c_seq ?_
    refine c_block ?_
    refine c_region ?_
    refine s1 (p_move rfl) rfl rfl rfl ?_
    refine s1 (p_move rfl) rfl rfl rfl ?_
    refine s1 (p_move rfl) rfl rfl rfl ?_
    refine s1 (p_shr rfl rfl (by omega) rfl) rfl rfl rfl ?_
    refine s1 (p_and rfl rfl rfl) rfl rfl rfl ?_
    refine s_step (st_call Tryz.func41 nm41 bo41 rfl (one_spec g (n + j) _ (by omega) hT)) rfl rfl rfl ?_
    rintro _ T1 ⟨rfl, hT1⟩
    refine s_nil ?_
    refine x_block ?_
    refine x_next ?_
    refine c_region ?_
    refine s1 (p_move rfl) rfl rfl rfl ?_
    refine s1 (p_sub rfl rfl (w64 (by omega))) rfl rfl rfl ?_
    refine s1 (p_assign rfl) rfl rfl rfl ?_
    refine s_nil ?_
    exact x_loop ⟨j + 1, T1⟩ (⟨by omega, by rw [← Nat.add_assoc]; exact hT1⟩) (by show k - (j + 1) < k - j; omega) ⟨rfl, rfl, (by show some (Value.int .i64 ((k : Int) - 1 - (j : Int) - 1)) = some (Value.int .i64 ((k : Int) - 1 - ((j + 1 : Nat) : Int))); congr 2; omega), trivial⟩ (f0)
  · refine c_exit ?_
    refine x_exit_then ?_
    refine x_exit_then ?_
    refine x_exit_here ?_
    obtain rfl : j = k := by omega
    exact x_done_none rfl ⟨rfl, hT⟩

set_option maxRecDepth 100000 in
theorem symbol_spec {F : List As} (g n : Nat) (s : Int) (hn : n + 9 ≤ 1000000000) {S : List As} (hS : Wr 128 g n F S) :
    Fun Tryz.prog 51 [.pointer (some ⟨g, 0, none⟩), .int .i64 s] (S) (fun u T => u = .tuple #[] ∧ ∃ k, 7 ≤ k ∧ k ≤ 9 ∧ Wr 128 g (n + k) F T) := by
  refine fun_intro Tryz.func51 rfl Tryz.ntmps51 (Nat.le_of_ble_eq_true rfl) ?_
  refine c_block ?_
  refine c_seq ?_
  refine c_region ?_
  refine s1 (p_move rfl) rfl rfl rfl ?_
  refine s1 (p_lt rfl rfl) rfl rfl rfl ?_
  refine s1 (p_assign rfl) rfl rfl rfl ?_
  refine s_nil ?_
  refine x_next ?_
  refine c_if rfl (fun h8 => ?_) (fun h8 => ?_)
  · refine c_region ?_
    refine s1 (p_move rfl) rfl rfl rfl ?_
    refine s1 (p_move rfl) rfl rfl rfl ?_
    refine s1 (p_add rfl rfl rfl) rfl rfl rfl ?_
    refine s_step (st_call Tryz.func53 nm53 bo53 rfl (wword_spec g n 8 _ (by omega) (by omega) hS)) rfl rfl rfl ?_
    rintro _ T1 ⟨rfl, hT1⟩
    refine s_nil ?_
    refine x_block ?_
    exact x_done_none rfl ⟨rfl, 8, by omega, by omega, hT1⟩
  · refine c_seq ?_
    refine c_region ?_
    refine s1 (p_move rfl) rfl rfl rfl ?_
    refine s1 (p_lt rfl rfl) rfl rfl rfl ?_
    refine s1 (p_assign rfl) rfl rfl rfl ?_
    refine s_nil ?_
    refine x_next ?_
    refine c_if rfl (fun h15 => ?_) (fun h15 => ?_)
    · refine c_region ?_
      refine s1 (p_move rfl) rfl rfl rfl ?_
      refine s1 (p_move rfl) rfl rfl rfl ?_
      refine s1 (p_add rfl rfl rfl) rfl rfl rfl ?_
      refine s_step (st_call Tryz.func53 nm53 bo53 rfl (wword_spec g n 9 _ (by omega) (by omega) hS)) rfl rfl rfl ?_
      rintro _ T1 ⟨rfl, hT1⟩
      refine s_nil ?_
      refine x_block ?_
      exact x_done_none rfl ⟨rfl, 9, by omega, by omega, hT1⟩
    · refine c_seq ?_
      refine c_region ?_
      refine s1 (p_move rfl) rfl rfl rfl ?_
      refine s1 (p_lt rfl rfl) rfl rfl rfl ?_
      refine s1 (p_assign rfl) rfl rfl rfl ?_
      refine s_nil ?_
      refine x_next ?_
      refine c_if rfl (fun h22 => ?_) (fun h22 => ?_)
      · refine c_region ?_
        refine s1 (p_move rfl) rfl rfl rfl ?_
        refine s1 (p_move rfl) rfl rfl rfl ?_
        refine s1 (p_sub rfl rfl rfl) rfl rfl rfl ?_
        refine s_step (st_call Tryz.func53 nm53 bo53 rfl (wword_spec g n 7 _ (by omega) (by omega) hS)) rfl rfl rfl ?_
        rintro _ T1 ⟨rfl, hT1⟩
        refine s_nil ?_
        refine x_block ?_
        exact x_done_none rfl ⟨rfl, 7, by omega, by omega, hT1⟩
      · refine c_region ?_
        refine s1 (p_move rfl) rfl rfl rfl ?_
        refine s1 (p_move rfl) rfl rfl rfl ?_
        refine s1 (p_sub rfl rfl rfl) rfl rfl rfl ?_
        refine s_step (st_call Tryz.func53 nm53 bo53 rfl (wword_spec g n 8 _ (by omega) (by omega) hS)) rfl rfl rfl ?_
        rintro _ T1 ⟨rfl, hT1⟩
        refine s_nil ?_
        refine x_block ?_
        exact x_done_none rfl ⟨rfl, 8, by omega, by omega, hT1⟩

set_option maxRecDepth 100000 in
theorem lengthOf_spec {S : List As} (s : Int) (h0 : 257 ≤ s ∧ s ≤ 285) :
    Fun Tryz.prog 54 [.int .i64 s] (S) (fun u T => T = S ∧ ∃ (a : Int) (b : Nat), u = .tuple #[.int .i64 a, .int .i64 (b : Int)] ∧ b ≤ 5) := by
  refine fun_intro Tryz.func54 rfl Tryz.ntmps54 (Nat.le_of_ble_eq_true rfl) ?_
  refine c_seq ?_
  refine c_region ?_
  refine s1 (p_assign rfl) rfl rfl rfl ?_
  refine s1 (p_assign rfl) rfl rfl rfl ?_
  refine s_nil ?_
  refine x_next ?_
  refine c_seq ?_
  refine c_region ?_
  refine s1 (p_move rfl) rfl rfl rfl ?_
  refine s1 (p_sub rfl rfl (w64 (by omega))) rfl rfl rfl ?_
  refine s1 (p_assign rfl) rfl rfl rfl ?_
  refine s_nil ?_
  refine x_next ?_
  refine c_seq ?_
  refine c_block ?_
  refine c_seq ?_
  refine c_region ?_
  refine s1 (p_move rfl) rfl rfl rfl ?_
  refine s1 (p_eq rfl rfl) rfl rfl rfl ?_
  refine s1 (p_assign rfl) rfl rfl rfl ?_
  refine s_nil ?_
  refine x_next ?_
  refine c_if rfl (fun h7 => ?_) (fun h7 => ?_)
  · refine c_seq ?_
    refine c_region ?_
    refine s1 (p_assign rfl) rfl rfl rfl ?_
    refine s1 (p_assign rfl) rfl rfl rfl ?_
    refine s_nil ?_
    refine x_next ?_
    refine c_ret ?_
    refine x_ret_block ?_
    refine x_ret_then ?_
    exact x_done_two rfl rfl rfl ⟨rfl, _, 0, rfl, by omega⟩
  · refine c_seq ?_
    refine c_region ?_
    refine s1 (p_move rfl) rfl rfl rfl ?_
    refine s1 (p_lt rfl rfl) rfl rfl rfl ?_
    refine s1 (p_assign rfl) rfl rfl rfl ?_
    refine s_nil ?_
    refine x_next ?_
    refine c_if rfl (fun h10 => ?_) (fun h10 => ?_)
    · refine c_seq ?_
      refine c_region ?_
      refine s1 (p_move rfl) rfl rfl rfl ?_
      refine s1 (p_add rfl rfl (w64 (by omega))) rfl rfl rfl ?_
      refine s1 (p_assign rfl) rfl rfl rfl ?_
      refine s1 (p_assign rfl) rfl rfl rfl ?_
      refine s_nil ?_
      refine x_next ?_
      refine c_ret ?_
      refine x_ret_block ?_
      refine x_ret_then ?_
      exact x_done_two rfl rfl rfl ⟨rfl, _, 0, rfl, by omega⟩
    · refine c_skip ?_
      refine x_block ?_
      refine x_next ?_
      refine c_seq ?_
      refine c_region ?_
      refine s1 (p_move rfl) rfl rfl rfl ?_
      refine s1 (p_rem rfl rfl (by omega) (tm (by omega))) rfl rfl rfl ?_
      refine s1 (p_add rfl rfl (w64 (by omega))) rfl rfl rfl ?_
      refine s1 (p_move rfl) rfl rfl rfl ?_
      refine s1 (p_quo rfl rfl (by omega) (q64 (by omega))) rfl rfl rfl ?_
      refine s1 (p_sub rfl rfl (w64 (by omega))) rfl rfl rfl ?_
      refine s1 (p_shl rfl rfl (by omega) rfl) rfl rfl rfl ?_
      refine s1 (p_add rfl rfl rfl) rfl rfl rfl ?_
      refine s1 (p_move rfl) rfl rfl rfl ?_
      refine s1 (p_quo rfl rfl (by omega) (q64 (by omega))) rfl rfl rfl ?_
      refine s1 (p_sub rfl rfl (w64 (by omega))) rfl rfl rfl ?_
      refine s1 (p_assign rfl) rfl rfl rfl ?_
      refine s1 (p_assign rfl) rfl rfl rfl ?_
      refine s_nil ?_
      refine x_next ?_
      refine c_ret ?_
      obtain ⟨b, hb⟩ := Int.eq_ofNat_of_zero_le (show 0 ≤ (s - 257) / 4 - 1 by omega)
      rw [hb]
      exact x_done_two rfl rfl rfl ⟨rfl, _, b, rfl, by omega⟩

set_option maxRecDepth 100000 in
theorem distanceOf_spec {S : List As} (s : Int) (h0 : 0 ≤ s ∧ s ≤ 29) :
    Fun Tryz.prog 55 [.int .i64 s] (S) (fun u T => T = S ∧ ∃ (a : Int) (b : Nat), u = .tuple #[.int .i64 a, .int .i64 (b : Int)] ∧ b ≤ 13) := by
  refine fun_intro Tryz.func55 rfl Tryz.ntmps55 (Nat.le_of_ble_eq_true rfl) ?_
  refine c_seq ?_
  refine c_region ?_
  refine s1 (p_assign rfl) rfl rfl rfl ?_
  refine s1 (p_assign rfl) rfl rfl rfl ?_
  refine s_nil ?_
  refine x_next ?_
  refine c_seq ?_
  refine c_seq ?_
  refine c_region ?_
  refine s1 (p_move rfl) rfl rfl rfl ?_
  refine s1 (p_lt rfl rfl) rfl rfl rfl ?_
  refine s_nil ?_
  refine x_next ?_
  refine c_if rfl (fun h5 => ?_) (fun h5 => ?_)
  · refine c_seq ?_
    refine c_region ?_
    refine s1 (p_move rfl) rfl rfl rfl ?_
    refine s1 (p_add rfl rfl (w64 (by omega))) rfl rfl rfl ?_
    refine s1 (p_assign rfl) rfl rfl rfl ?_
    refine s1 (p_assign rfl) rfl rfl rfl ?_
    refine s_nil ?_
    refine x_next ?_
    refine c_ret ?_
    refine x_ret_then ?_
    exact x_done_two rfl rfl rfl ⟨rfl, _, 0, rfl, by omega⟩
  · refine c_skip ?_
    refine x_next ?_
    refine c_seq ?_
    refine c_region ?_
    refine s1 (p_move rfl) rfl rfl rfl ?_
    refine s1 (p_rem rfl rfl (by omega) (tm (by omega))) rfl rfl rfl ?_
    refine s1 (p_add rfl rfl (w64 (by omega))) rfl rfl rfl ?_
    refine s1 (p_move rfl) rfl rfl rfl ?_
    refine s1 (p_quo rfl rfl (by omega) (q64 (by omega))) rfl rfl rfl ?_
    refine s1 (p_sub rfl rfl (w64 (by omega))) rfl rfl rfl ?_
    refine s1 (p_shl rfl rfl (by omega) rfl) rfl rfl rfl ?_
    refine s1 (p_add rfl rfl rfl) rfl rfl rfl ?_
    refine s1 (p_move rfl) rfl rfl rfl ?_
    refine s1 (p_quo rfl rfl (by omega) (q64 (by omega))) rfl rfl rfl ?_
    refine s1 (p_sub rfl rfl (w64 (by omega))) rfl rfl rfl ?_
    refine s1 (p_assign rfl) rfl rfl rfl ?_
    refine s1 (p_assign rfl) rfl rfl rfl ?_
    refine s_nil ?_
    refine x_next ?_
    refine c_ret ?_
    obtain ⟨b, hb⟩ := Int.eq_ofNat_of_zero_le (show 0 ≤ s / 2 - 1 by omega)
    rw [hb]
    exact x_done_two rfl rfl rfl ⟨rfl, _, b, rfl, by omega⟩

set_option maxRecDepth 100000 in
theorem again_spec {F : List As} (g n : Nat) (length dist : Int) (hn : n + 32 ≤ 1000000000) {S : List As} (hS : Wr 128 g n F S) :
    Fun Tryz.prog 52 [.pointer (some ⟨g, 0, none⟩), .int .i64 length, .int .i64 dist] (S) (fun u T => u = .tuple #[] ∧ ∃ k, k ≤ 32 ∧ Wr 128 g (n + k) F T) := by
  refine fun_intro Tryz.func52 rfl Tryz.ntmps52 (Nat.le_of_ble_eq_true rfl) ?_
  refine c_seq ?_
  refine c_region ?_
  refine s1 (p_assign rfl) rfl rfl rfl ?_
  refine s_nil ?_
  refine x_next ?_
  refine c_seq ?_
  refine c_seq ?_
  refine c_region ?_
  refine s1 (p_assign rfl) rfl rfl rfl ?_
  refine s_nil ?_
  refine x_next ?_
  refine c_block ?_
  refine c_loop (α := (Int) × (Int)) (fun gg => 257 ≤ gg.1 ∧ gg.1 ≤ 285 ∧ 258 ≤ gg.2 ∧ gg.2 ≤ 286) (fun gg => (286 - gg.2).toNat) (fun gg => [(0, .pointer (some ⟨g, 0, none⟩)), (1, .int .i64 length), (2, .int .i64 dist), (6, .int .i64 gg.1), (7, .int .i64 gg.2)]) (fun gg => S) ⟨257, 258⟩ (⟨by omega, by omega, by omega, by omega⟩) ⟨rfl, rfl, rfl, rfl, rfl, trivial⟩ (f0) ?_
  rintro ⟨s, k⟩ hI
  replace hI : 257 ≤ s ∧ s ≤ 285 ∧ 258 ≤ k ∧ k ≤ 286 := hI
  obtain ⟨h1, h2, h3, h4⟩ := hI
  refine c_sub (L' := [(0, .pointer (some ⟨g, 0, none⟩)), (1, .int .i64 length), (2, .int .i64 dist), (6, .int .i64 s), (7, .int .i64 k)]) ⟨rfl, rfl, rfl, rfl, rfl, trivial⟩ ?_
  refine c_perm (T := S) f0 ?_
  refine c_seq ?_
  refine c_seq ?_
  refine c_region ?_
  refine s1 (p_move rfl) rfl rfl rfl ?_
  refine s1 (p_le rfl rfl) rfl rfl rfl ?_
  refine s_nil ?_
  refine x_next ?_
  refine c_if rfl (fun h16 => ?_) (fun h16 => ?_)
  · refine c_skip ?_
    refine x_next ?_
    refine c_seq ?_
    refine c_block ?_
    refine c_seq ?_
    refine c_region ?_
    refine s1 (p_move rfl) rfl rfl rfl ?_
    refine s_step (st_call Tryz.func54 nm54 bo54 rfl (lengthOf_spec k (by omega))) rfl rfl rfl ?_
    rintro _ _ ⟨rfl, a, b, rfl, hb⟩
    refine s1 (p_move rfl) rfl rfl rfl ?_
    refine s1 (p_extract rfl rfl) rfl rfl rfl ?_
    refine s1 (p_extract rfl rfl) rfl rfl rfl ?_
    refine s1 (p_assign rfl) rfl rfl rfl ?_
    refine s1 (p_assign rfl) rfl rfl rfl ?_
    refine s_nil ?_
    refine x_next ?_
    refine c_seq ?_
    refine c_region ?_
    refine s1 (p_move rfl) rfl rfl rfl ?_
    refine s1 (p_move rfl) rfl rfl rfl ?_
    refine s1 (p_le rfl rfl) rfl rfl rfl ?_
    refine s_nil ?_
    refine x_next ?_
    refine c_if rfl (fun h26 => ?_) (fun h26 => ?_)
    · refine c_region ?_
      refine s1 (p_move rfl) rfl rfl rfl ?_
      refine s1 (p_assign rfl) rfl rfl rfl ?_
      refine s_nil ?_
      refine x_block ?_
      refine x_next ?_
      refine c_region ?_
      refine s1 (p_move rfl) rfl rfl rfl ?_
      refine s1 (p_add rfl rfl (w64 (by omega))) rfl rfl rfl ?_
      refine s1 (p_assign rfl) rfl rfl rfl ?_
      refine s_nil ?_
      exact x_loop ⟨k, k + 1⟩ (⟨by omega, by omega, by omega, by omega⟩) (by show (286 - (k + 1)).toNat < (286 - k).toNat; omega) ⟨rfl, rfl, rfl, rfl, rfl, trivial⟩ (f0)
    · refine c_skip ?_
      refine x_block ?_
      refine x_next ?_
      refine c_region ?_
      refine s1 (p_move rfl) rfl rfl rfl ?_
      refine s1 (p_add rfl rfl (w64 (by omega))) rfl rfl rfl ?_
      refine s1 (p_assign rfl) rfl rfl rfl ?_
      refine s_nil ?_
      exact x_loop ⟨s, k + 1⟩ (⟨by omega, by omega, by omega, by omega⟩) (by show (286 - (k + 1)).toNat < (286 - k).toNat; omega) ⟨rfl, rfl, rfl, rfl, rfl, trivial⟩ (f0)
  · refine c_exit ?_
    refine x_exit_then ?_
    refine x_exit_then ?_
    refine x_exit_here ?_
    refine x_next ?_
    refine c_seq ?_
    refine c_region ?_
    refine s1 (p_move rfl) rfl rfl rfl ?_
    refine s_step (st_call Tryz.func54 nm54 bo54 rfl (lengthOf_spec s (by omega))) rfl rfl rfl ?_
    rintro _ _ ⟨rfl, a, b, rfl, hb⟩
    refine s1 (p_move rfl) rfl rfl rfl ?_
    refine s1 (p_extract rfl rfl) rfl rfl rfl ?_
    refine s1 (p_extract rfl rfl) rfl rfl rfl ?_
    refine s1 (p_assign rfl) rfl rfl rfl ?_
    refine s1 (p_assign rfl) rfl rfl rfl ?_
    refine s_nil ?_
    refine x_next ?_
    refine c_seq ?_
    refine c_region ?_
    refine s1 (p_move rfl) rfl rfl rfl ?_
    refine s1 (p_move rfl) rfl rfl rfl ?_
    refine s_step (st_call Tryz.func51 nm51 bo51 rfl (symbol_spec g n s (by omega) hS)) rfl rfl rfl ?_
    rintro _ T1 ⟨rfl, k1, hk1, hk1', hT1⟩
    refine s_nil ?_
    refine x_next ?_
    refine c_seq ?_
    refine c_region ?_
    refine s1 (p_move rfl) rfl rfl rfl ?_
    refine s1 (p_move rfl) rfl rfl rfl ?_
    refine s1 (p_move rfl) rfl rfl rfl ?_
    refine s1 (p_sub rfl rfl rfl) rfl rfl rfl ?_
    refine s1 (p_move rfl) rfl rfl rfl ?_
    refine s_step (st_call Tryz.func42 nm42 bo42 rfl (many_spec g (n + k1) b _ _ rfl (by omega) hT1)) rfl rfl rfl ?_
    rintro _ T2 ⟨rfl, hT2⟩
    refine s_nil ?_
    refine x_next ?_
    refine c_seq ?_
    refine c_region ?_
    refine s1 (p_assign rfl) rfl rfl rfl ?_
    refine s_nil ?_
    refine x_next ?_
    refine c_seq ?_
    refine c_seq ?_
    refine c_region ?_
    refine s1 (p_assign rfl) rfl rfl rfl ?_
    refine s_nil ?_
    refine x_next ?_
    refine c_block ?_
    refine c_loop (α := (Int) × (Int)) (fun gg => 0 ≤ gg.1 ∧ gg.1 ≤ 29 ∧ 1 ≤ gg.2 ∧ gg.2 ≤ 30) (fun gg => (30 - gg.2).toNat) (fun gg => [(0, .pointer (some ⟨g, 0, none⟩)), (2, .int .i64 dist), (6, .int .i64 gg.1), (12, .int .i64 gg.2)]) (fun gg => T2) ⟨0, 1⟩ (⟨by omega, by omega, by omega, by omega⟩) ⟨rfl, rfl, rfl, rfl, trivial⟩ (f0) ?_
    rintro ⟨s, k⟩ hI
    replace hI : 0 ≤ s ∧ s ≤ 29 ∧ 1 ≤ k ∧ k ≤ 30 := hI
    obtain ⟨h1, h2, h3, h4⟩ := hI
    refine c_sub (L' := [(0, .pointer (some ⟨g, 0, none⟩)), (2, .int .i64 dist), (6, .int .i64 s), (12, .int .i64 k)]) ⟨rfl, rfl, rfl, rfl, trivial⟩ ?_
    refine c_perm (T := T2) f0 ?_
    refine c_seq ?_
    refine c_seq ?_
    refine c_region ?_
    refine s1 (p_move rfl) rfl rfl rfl ?_
    refine s1 (p_lt rfl rfl) rfl rfl rfl ?_
    refine s_nil ?_
    refine x_next ?_
    refine c_if rfl (fun h43 => ?_) (fun h43 => ?_)
    · refine c_skip ?_
      refine x_next ?_
      refine c_seq ?_
      refine c_block ?_
      refine c_seq ?_
      refine c_region ?_
      refine s1 (p_move rfl) rfl rfl rfl ?_
      refine s_step (st_call Tryz.func55 nm55 bo55 rfl (distanceOf_spec k (by omega))) rfl rfl rfl ?_
      rintro _ _ ⟨rfl, a, b2, rfl, hb2⟩
      refine s1 (p_move rfl) rfl rfl rfl ?_
      refine s1 (p_extract rfl rfl) rfl rfl rfl ?_
      refine s1 (p_extract rfl rfl) rfl rfl rfl ?_
      refine s1 (p_assign rfl) rfl rfl rfl ?_
      refine s1 (p_assign rfl) rfl rfl rfl ?_
      refine s_nil ?_
      refine x_next ?_
      refine c_seq ?_
      refine c_region ?_
      refine s1 (p_move rfl) rfl rfl rfl ?_
      refine s1 (p_move rfl) rfl rfl rfl ?_
      refine s1 (p_le rfl rfl) rfl rfl rfl ?_
      refine s_nil ?_
      refine x_next ?_
      refine c_if rfl (fun h53 => ?_) (fun h53 => ?_)
      · refine c_region ?_
        refine s1 (p_move rfl) rfl rfl rfl ?_
        refine s1 (p_assign rfl) rfl rfl rfl ?_
        refine s_nil ?_
        refine x_block ?_
        refine x_next ?_
        refine c_region ?_
        refine s1 (p_move rfl) rfl rfl rfl ?_
        refine s1 (p_add rfl rfl (w64 (by omega))) rfl rfl rfl ?_
        refine s1 (p_assign rfl) rfl rfl rfl ?_
        refine s_nil ?_
        exact x_loop ⟨k, k + 1⟩ (⟨by omega, by omega, by omega, by omega⟩) (by show (30 - (k + 1)).toNat < (30 - k).toNat; omega) ⟨rfl, rfl, rfl, rfl, trivial⟩ (f0)
      · refine c_skip ?_
        refine x_block ?_
        refine x_next ?_
        refine c_region ?_
        refine s1 (p_move rfl) rfl rfl rfl ?_
        refine s1 (p_add rfl rfl (w64 (by omega))) rfl rfl rfl ?_
        refine s1 (p_assign rfl) rfl rfl rfl ?_
        refine s_nil ?_
        exact x_loop ⟨s, k + 1⟩ (⟨by omega, by omega, by omega, by omega⟩) (by show (30 - (k + 1)).toNat < (30 - k).toNat; omega) ⟨rfl, rfl, rfl, rfl, trivial⟩ (f0)
    · refine c_exit ?_
      refine x_exit_then ?_
      refine x_exit_then ?_
      refine x_exit_here ?_
      refine x_next ?_
      refine c_seq ?_
      refine c_region ?_
      refine s1 (p_move rfl) rfl rfl rfl ?_
      refine s_step (st_call Tryz.func55 nm55 bo55 rfl (distanceOf_spec s (by omega))) rfl rfl rfl ?_
      rintro _ _ ⟨rfl, a, b2, rfl, hb2⟩
      refine s1 (p_move rfl) rfl rfl rfl ?_
      refine s1 (p_extract rfl rfl) rfl rfl rfl ?_
      refine s1 (p_extract rfl rfl) rfl rfl rfl ?_
      refine s1 (p_assign rfl) rfl rfl rfl ?_
      refine s1 (p_assign rfl) rfl rfl rfl ?_
      refine s_nil ?_
      refine x_next ?_
      refine c_seq ?_
      refine c_region ?_
      refine s1 (p_move rfl) rfl rfl rfl ?_
      refine s1 (p_move rfl) rfl rfl rfl ?_
      refine s_step (st_call Tryz.func53 nm53 bo53 rfl (wword_spec g (n + k1 + b) 5 _ (by omega) (by omega) hT2)) rfl rfl rfl ?_
      rintro _ T3 ⟨rfl, hT3⟩
      refine s_nil ?_
      refine x_next ?_
      refine c_region ?_
      refine s1 (p_move rfl) rfl rfl rfl ?_
      refine s1 (p_move rfl) rfl rfl rfl ?_
      refine s1 (p_move rfl) rfl rfl rfl ?_
      refine s1 (p_sub rfl rfl rfl) rfl rfl rfl ?_
      refine s1 (p_move rfl) rfl rfl rfl ?_
      refine s_step (st_call Tryz.func42 nm42 bo42 rfl (many_spec g (n + k1 + b + 5) b2 _ _ rfl (by omega) hT3)) rfl rfl rfl ?_
      rintro _ T4 ⟨rfl, hT4⟩
      refine s_nil ?_
      exact x_done_none rfl ⟨rfl, k1 + b + 5 + b2, by omega, by simpa only [Nat.add_assoc] using hT4⟩

end V
end Go.Proofs.YtaflcjoagfnhfaaGreatDoor
