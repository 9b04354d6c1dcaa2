/- Walks: the reference's small makers of files. -/
import Derived.Test.YtaflcjoagfnhfaaGreatDoorL
namespace Go.Proofs.YtaflcjoagfnhfaaGreatDoor
namespace V
open Go Go.Proofs

/-- How many numbers a dot has. -/
def Tif.chan (t : Tif) : Int := if t.colour ≠ 2 then 1 else if t.alpha > 0 then 4 else 3
theorem Tif.chan_pos (t : Tif) : 1 ≤ t.chan ∧ t.chan ≤ 4 := by unfold Tif.chan; split <;> (try split) <;> omega
/-- What kind the file's colours are. -/
def Tif.kindOf (t : Tif) : Int :=
  if t.colour < 2 then 1 + (if t.depth = 16 then 1 else 0) else if t.colour = 3 then 7 else if t.alpha = 2 then 5 + (if t.depth = 16 then 1 else 0) else 3 + (if t.depth = 16 then 1 else 0)
/-- Byte k of the n bytes that hold v. -/
def numAt (big : Bool) (n : Nat) (v : Int) (k : Nat) : Int := (v / 256 ^ (if big then n - 1 - k else k)) % 256
def num (big : Bool) (n : Nat) (v : Int) : List Int := (List.range n).map (numAt big n v)
theorem num_length (big : Bool) (n : Nat) (v : Int) : (num big n v).length = n := by simp [num]
theorem num_take {big : Bool} {n : Nat} {v : Int} {k : Nat} (h : k < n) : (num big n v).take k ++ [numAt big n v k] = (num big n v).take (k + 1) := by
  have h2 : (num big n v)[k]? = some (numAt big n v k) := by simp [num, h]
  rw [List.take_add_one, h2]
  rfl
theorem shrB {v : Int} {x : Int} (h0 : 0 ≤ x) (h1 : x ≤ 7) : v.fdiv (2 ^ min (8 * x).toNat IntKind.i64.bits) = v / 256 ^ x.toNat := by
  obtain ⟨k, rfl⟩ := Int.eq_ofNat_of_zero_le h0
  have e1 : min (8 * (k : Int)).toNat IntKind.i64.bits = 8 * k := by
    have : IntKind.i64.bits = 64 := rfl
    omega
  have e2 : (2 : Int) ^ (8 * k) = 256 ^ k := by rw [Int.pow_mul]; rfl
  have e3 : ((k : Int)).toNat = k := by omega
  rw [e1, e2, e3, Int.fdiv_eq_ediv_of_nonneg _ (by apply Int.le_of_lt; apply Int.pow_pos; omega)]

set_option maxRecDepth 100000 in
theorem few_spec {F : List As} (A : Option Addr) (N c : Nat) (l : List Int) (_hl : l.length = N) :
    Fun Tryz.prog 4 [.slice A N c] (F) (fun u T => u = .bool (decide ((N : Int) ≤ 2000)) ∧ T = F) := by
  refine fun_intro Tryz.func4 rfl Tryz.ntmps4 (Nat.le_of_ble_eq_true rfl) ?_
  refine c_seq ?_
  refine c_region ?_
  refine s1 (p_assign rfl) rfl rfl rfl ?_
  refine s_nil ?_
  refine x_next ?_
  refine c_seq ?_
  refine c_region ?_
  refine s1 (p_move rfl) rfl rfl rfl ?_
  refine s1 (p_len Tryz.underlying23 rfl) rfl rfl rfl ?_
  refine s1 (p_le rfl rfl) rfl rfl rfl ?_
  refine s1 (p_assign rfl) rfl rfl rfl ?_
  refine s_nil ?_
  refine x_next ?_
  refine c_ret ?_
  exact x_done_one rfl rfl ⟨rfl, rfl⟩

set_option maxRecDepth 100000 in
theorem chan_spec {F : List As} (t : Tif) :
    Fun Tryz.prog 20 [t.val] (F) (fun u T => u = .int .i64 t.chan ∧ T = F) := by
  refine fun_intro Tryz.func20 rfl Tryz.ntmps20 (Nat.le_of_ble_eq_true rfl) ?_
  refine c_seq ?_
  refine c_region ?_
  refine s_step (st_box rfl) rfl rfl rfl ?_
  rintro _ _ ⟨gt, rfl, rfl⟩
  refine s_perm (T := blk gt t.cells 33 :: _) f0 ?_
  refine s1 (p_assign rfl) rfl rfl rfl ?_
  refine s_nil ?_
  refine x_next ?_
  refine c_seq ?_
  refine c_block ?_
  refine c_seq ?_
  refine c_region ?_
  refine s1 (p_fieldAddr (fun w => fa33_3 _ w) rfl) rfl rfl rfl ?_
  refine s1 (p_load m0 Tryz.underlying3 rfl rfl rfl) rfl rfl rfl ?_
  refine s1 (p_ne rfl rfl) rfl rfl rfl ?_
  refine s1 (p_assign rfl) rfl rfl rfl ?_
  refine s_nil ?_
  refine x_next ?_
  refine c_if rfl (fun h3 => ?_) (fun h3 => ?_)
  · refine c_seq ?_
    refine c_region ?_
    refine s1 (p_assign rfl) rfl rfl rfl ?_
    refine s_nil ?_
    refine x_next ?_
    refine c_ret ?_
    refine x_ret_block ?_
    refine x_ret_then ?_
    refine x_sat drop0 ?_
    exact x_done_one rfl rfl ⟨by unfold Tif.chan; simp_all; try omega, rfl⟩
  · refine c_seq ?_
    refine c_region ?_
    refine s1 (p_fieldAddr (fun w => fa33_4 _ w) rfl) rfl rfl rfl ?_
    refine s1 (p_load m0 Tryz.underlying3 rfl rfl rfl) rfl rfl rfl ?_
    refine s1 (p_gt rfl rfl) rfl rfl rfl ?_
    refine s1 (p_assign rfl) rfl rfl rfl ?_
    refine s_nil ?_
    refine x_next ?_
    refine c_if rfl (fun h7 => ?_) (fun h7 => ?_)
    · refine c_seq ?_
      refine c_region ?_
      refine s1 (p_assign rfl) rfl rfl rfl ?_
      refine s_nil ?_
      refine x_next ?_
      refine c_ret ?_
      refine x_ret_block ?_
      refine x_ret_then ?_
      refine x_sat drop0 ?_
      exact x_done_one rfl rfl ⟨by unfold Tif.chan; simp_all; try omega, rfl⟩
    · refine c_skip ?_
      refine x_block ?_
      refine x_next ?_
      refine c_seq ?_
      refine c_region ?_
      refine s1 (p_assign rfl) rfl rfl rfl ?_
      refine s_nil ?_
      refine x_next ?_
      refine c_ret ?_
      refine x_sat drop0 ?_
      exact x_done_one rfl rfl ⟨by unfold Tif.chan; simp_all; try omega, rfl⟩

set_option maxRecDepth 100000 in
theorem number_spec {F : List As} (big : Bool) (n : Nat) (v : Int) (hn : n ≤ 8) :
    Fun Tryz.prog 24 [.bool big, .int .i64 (n : Int), .int .i64 v] (F) (fun u T => ∃ A c, u = .slice A n c ∧ T = own (.slice A n c) 5 1 n (by8 (num big n v)) :: F) := by
  refine fun_intro Tryz.func24 rfl Tryz.ntmps24 (Nat.le_of_ble_eq_true rfl) ?_
  refine c_seq ?_
  refine c_region ?_
  refine s1 (p_assign rfl) rfl rfl rfl ?_
  refine s_nil ?_
  refine x_next ?_
  refine c_seq ?_
  refine c_region ?_
  refine s_step (st_buildSlice (e := 5) (size := 1) rfl (fun w => bs23_0 w) rfl (by omega)) rfl rfl rfl ?_
  rintro _ _ ⟨g1, rfl, rfl⟩
  refine s1 (p_assign rfl) rfl rfl rfl ?_
  refine s_nil ?_
  refine x_next ?_
  refine c_seq ?_
  refine c_seq ?_
  refine c_region ?_
  refine s1 (p_move rfl) rfl rfl rfl ?_
  refine s1 (p_move rfl) rfl rfl rfl ?_
  refine s_nil ?_
  refine x_next ?_
  refine c_block ?_
  refine c_loop (α := (Option Addr) × (Nat) × (Nat)) (fun gg => gg.2.1 ≤ n) (fun gg => n - gg.2.1) (fun gg => [(0, .bool big), (1, .int .i64 (n : Int)), (2, .int .i64 v), (7, .slice gg.1 gg.2.1 gg.2.2), (11, .int .i64 (gg.2.1 : Int)), (10, .int .i64 (n : Int))]) (fun gg => own (.slice gg.1 gg.2.1 gg.2.2) 5 1 gg.2.1 (by8 ((num big n v).take gg.2.1)) :: F) ⟨_, 0, 0⟩ (Nat.zero_le _) ⟨rfl, rfl, rfl, rfl, rfl, rfl, trivial⟩ (f0) ?_
  rintro ⟨A, k, c⟩ hI
  replace hI : k ≤ n := hI
  have hk := hI
  refine c_sub (L' := [(0, .bool big), (1, .int .i64 (n : Int)), (2, .int .i64 v), (7, .slice A k c), (11, .int .i64 (k : Int)), (10, .int .i64 (n : Int))]) ⟨rfl, rfl, rfl, rfl, rfl, rfl, trivial⟩ ?_
  refine c_perm (T := own (.slice A k c) 5 1 k (by8 ((num big n v).take k)) :: F) f0 ?_
  refine c_seq ?_
  refine c_region ?_
  refine s1 (p_lt rfl rfl) rfl rfl rfl ?_
  refine s_nil ?_
  refine x_next ?_
  refine c_seq ?_
  refine c_if rfl (fun h12 => ?_) (fun h12 => ?_)
  · refine c_skip ?_
    refine x_next ?_
    refine c_seq ?_
    refine c_block ?_
    refine c_seq ?_
    refine c_region ?_
    refine s1 (p_move rfl) rfl rfl rfl ?_
    refine s1 (p_assign rfl) rfl rfl rfl ?_
    refine s_nil ?_
    refine x_next ?_
    refine c_seq ?_
    refine c_region ?_
    refine s1 (p_move rfl) rfl rfl rfl ?_
    refine s_nil ?_
    refine x_next ?_
    refine c_ifb rfl (fun h14 => ?_) (fun h14 => ?_)
    · refine c_region ?_
      refine s1 (p_move rfl) rfl rfl rfl ?_
      refine s1 (p_move rfl) rfl rfl rfl ?_
      refine s1 (p_move rfl) rfl rfl rfl ?_
      refine s1 (p_sub rfl rfl (w64 (by omega))) rfl rfl rfl ?_
      refine s1 (p_move rfl) rfl rfl rfl ?_
      refine s1 (p_sub rfl rfl (w64 (by omega))) rfl rfl rfl ?_
      refine s1 (p_mul rfl rfl (w64 (by omega))) rfl rfl rfl ?_
      refine s1 (p_shr rfl rfl (by omega) (shrB (by omega) (by omega))) rfl rfl rfl ?_
      refine s1 (p_conv Tryz.underlying3 Tryz.underlying5 rfl ((mu8 _).trans (show _ = numAt big n v k by unfold numAt; rw [h14]; congr 3; simp only [if_true]; omega))) rfl rfl rfl ?_
      refine s_step (st_buildSlice (e := 5) (size := 1) rfl (fun w => bs23_1 _ w) rfl (by omega)) rfl rfl rfl ?_
      rintro _ _ ⟨g2, rfl, rfl⟩
      refine s_perm f1 ?_
      refine s_step (st_append (xs := by8 ((num big n v).take k)) Tryz.underlying23 inf5 rfl (by omega) rfl rfl (rd_own m1) (by simp [Value.oneCell']) ⟨by omega, by omega⟩) rfl rfl rfl ?_
      rintro _ _ ⟨A2, c2, rfl, rfl⟩
      refine s_perm f1 ?_
      refine s_sat drop0 ?_
      rw [show by8 ((num big n v).take k) ++ [Value.int .u8 (numAt big n v k)] = by8 ((num big n v).take (k + 1)) by rw [← num_take (by omega)]; simp [by8]]
      refine s1 (p_assign rfl) rfl rfl rfl ?_
      refine s_nil ?_
      refine x_block ?_
      refine x_next ?_
      refine c_region ?_
      refine s1 (p_add rfl rfl (w64 (by omega))) rfl rfl rfl ?_
      refine s1 (p_move rfl) rfl rfl rfl ?_
      refine s_nil ?_
      exact x_loop ⟨A2, k + 1, c2⟩ (by first | omega | (dsimp only; omega)) (by first | omega | (dsimp only; omega)) ⟨rfl, rfl, rfl, rfl, rfl, rfl, trivial⟩ (f0)
    · refine c_region ?_
      refine s1 (p_move rfl) rfl rfl rfl ?_
      refine s1 (p_move rfl) rfl rfl rfl ?_
      refine s1 (p_move rfl) rfl rfl rfl ?_
      refine s1 (p_mul rfl rfl (w64 (by omega))) rfl rfl rfl ?_
      refine s1 (p_shr rfl rfl (by omega) (shrB (by omega) (by omega))) rfl rfl rfl ?_
      refine s1 (p_conv Tryz.underlying3 Tryz.underlying5 rfl ((mu8 _).trans (show _ = numAt big n v k by unfold numAt; rw [show big = false by simpa using h14]; congr 3))) rfl rfl rfl ?_
      refine s_step (st_buildSlice (e := 5) (size := 1) rfl (fun w => bs23_1 _ w) rfl (by omega)) rfl rfl rfl ?_
      rintro _ _ ⟨g2, rfl, rfl⟩
      refine s_perm f1 ?_
      refine s_step (st_append (xs := by8 ((num big n v).take k)) Tryz.underlying23 inf5 rfl (by omega) rfl rfl (rd_own m1) (by simp [Value.oneCell']) ⟨by omega, by omega⟩) rfl rfl rfl ?_
      rintro _ _ ⟨A2, c2, rfl, rfl⟩
      refine s_perm f1 ?_
      refine s_sat drop0 ?_
      rw [show by8 ((num big n v).take k) ++ [Value.int .u8 (numAt big n v k)] = by8 ((num big n v).take (k + 1)) by rw [← num_take (by omega)]; simp [by8]]
      refine s1 (p_assign rfl) rfl rfl rfl ?_
      refine s_nil ?_
      refine x_block ?_
      refine x_next ?_
      refine c_region ?_
      refine s1 (p_add rfl rfl (w64 (by omega))) rfl rfl rfl ?_
      refine s1 (p_move rfl) rfl rfl rfl ?_
      refine s_nil ?_
      exact x_loop ⟨A2, k + 1, c2⟩ (by first | omega | (dsimp only; omega)) (by first | omega | (dsimp only; omega)) ⟨rfl, rfl, rfl, rfl, rfl, rfl, trivial⟩ (f0)
  · refine c_exit ?_
    refine x_exit_then ?_
    refine x_exit_then ?_
    refine x_exit_here ?_
    refine x_next ?_
    refine c_seq ?_
    refine c_region ?_
    refine s1 (p_move rfl) rfl rfl rfl ?_
    refine s1 (p_assign rfl) rfl rfl rfl ?_
    refine s_nil ?_
    refine x_next ?_
    refine c_ret ?_
    obtain rfl : k = n := by omega
    exact x_done_one rfl rfl ⟨A, c, rfl, by rw [List.take_of_length_le (by simp [num])]⟩

theorem pv {P : Program} {L : Env} {S : List As} {o : Oper} {v v' : Value} (h : Pure1 P L S o v) (e : v = v') : Pure1 P L S o v' := e ▸ h
theorem modN {x : Int} {N : Nat} (h0 : 0 ≤ x) (hN : 0 < N) : ∃ a : Nat, x % (N : Int) = (a : Int) ∧ a < N := by
  obtain ⟨k, rfl⟩ := Int.eq_ofNat_of_zero_le h0
  exact ⟨k % N, by omega, Nat.mod_lt _ hN⟩

theorem in64_push (l : List Int) (x : Int) : in64 l ++ [Value.int .i64 x] = in64 (l ++ [x]) := by simp [in64]
theorem by8_push (l : List Int) (x : Int) : by8 l ++ [Value.int .u8 x] = by8 (l ++ [x]) := by simp [by8]

set_option maxRecDepth 100000 in
theorem samples_spec {F : List As} (t : Tif) (A : Option Addr) (N c : Nat) (l : List Int) (hl : l.length = N) (M : Nat) (hM : t.wide * t.high * t.chan = M) (hWH : 0 ≤ t.wide * t.high ∧ t.wide * t.high ≤ 16000) (hM1 : M ≤ 64000) (hd : 0 ≤ t.depth) (hr : ∀ w, Sat w F → Reads w (.slice A N c) 1 N (by8 l)) :
    Fun Tryz.prog 13 [t.val, .slice A N c] (F) (fun u T => ∃ B cb, ∃ lo : List Int, lo.length = M ∧ u = .slice B M cb ∧ T = own (.slice B M cb) 3 1 M (in64 lo) :: F) := by
  refine fun_intro Tryz.func13 rfl Tryz.ntmps13 (Nat.le_of_ble_eq_true rfl) ?_
  refine c_have (p := N ≤ c) (fun w h => (hr w h).cap) ?_
  intro hNc
  refine c_seq ?_
  refine c_region ?_
  refine s_step (st_box rfl) rfl rfl rfl ?_
  rintro _ _ ⟨gt, rfl, rfl⟩
  refine s_perm (T := blk gt t.cells 33 :: _) f0 ?_
  refine s1 (p_assign rfl) rfl rfl rfl ?_
  refine s_nil ?_
  refine x_next ?_
  refine c_seq ?_
  refine c_region ?_
  refine s_step (st_buildSlice (e := 3) (size := 1) rfl (fun w => bs43_0 w) rfl (by omega)) rfl rfl rfl ?_
  rintro _ _ ⟨g1, rfl, rfl⟩
  refine s1 (p_assign rfl) rfl rfl rfl ?_
  refine s_nil ?_
  refine x_next ?_
  refine c_seq ?_
  refine c_seq ?_
  refine c_draw 9 (own (.slice (some ⟨g1, 0, none⟩) 0 0) 3 1 0 [] :: blk gt t.cells 33 :: F) mixed ?_
  refine d_take 0 rfl (p_fieldAddr (fun w => fa33_1 _ w) rfl) rfl rfl rfl (by kernel_rfl) (fun _ h => h) ?_
  refine d_take 1 rfl (p_load m1 Tryz.underlying3 rfl rfl rfl) rfl rfl rfl (by kernel_rfl) (fun _ h => h) ?_
  refine d_take 2 rfl (p_fieldAddr (fun w => fa33_2 _ w) rfl) rfl rfl rfl (by kernel_rfl) (fun _ h => h) ?_
  refine d_take 3 rfl (p_load m1 Tryz.underlying3 rfl rfl rfl) rfl rfl rfl (by kernel_rfl) (fun _ h => h) ?_
  refine d_take 4 rfl (p_mul rfl rfl (w64 (by omega))) rfl rfl rfl (by kernel_rfl) (fun _ h => h) ?_
  refine d_take 5 rfl (p_loadA m1 Tryz.underlying33 rfl sz33 rfl) rfl rfl rfl (by kernel_rfl) (fun _ h => h) ?_
  refine d_take 8 rfl (p_move rfl) rfl rfl rfl (by kernel_rfl) (fun _ h => h) ?_
  refine d_step 6 rfl (by kernel_rfl) (st_call Tryz.func20 nm20 bo20 rfl (chan_spec t)) rfl rfl rfl ?_
  rintro _ _ ⟨rfl, rfl⟩
  refine ⟨fun _ => (fun _ h => h), ?_⟩
  refine d_take 7 rfl (p_mul rfl rfl ((w64 (by omega)).trans hM)) rfl rfl rfl (by kernel_rfl) (fun _ h => h) ?_
  refine d_done (by kernel_rfl) ?_
  refine x_next ?_
  refine c_block ?_
  refine c_loop (α := (Option Addr) × (Nat) × (Nat) × (List Int)) (fun gg => gg.2.2.2.length = gg.2.1 ∧ gg.2.1 ≤ M) (fun gg => M - gg.2.1) (fun gg => [(0, t.val), (1, .slice A N c), (2, .pointer (some ⟨gt, 0, none⟩)), (5, .slice gg.1 gg.2.1 gg.2.2.1), (17, .int .i64 (gg.2.1 : Int)), (16, .int .i64 (M : Int))]) (fun gg => own (.slice gg.1 gg.2.1 gg.2.2.1) 3 1 gg.2.1 (in64 gg.2.2.2) :: blk gt t.cells 33 :: F) ⟨_, 0, 0, []⟩ (⟨rfl, Nat.zero_le _⟩) ⟨rfl, rfl, rfl, rfl, rfl, rfl, trivial⟩ ((f1).trans f1) ?_
  rintro ⟨B, k, cb, lo⟩ hI
  replace hI : lo.length = k ∧ k ≤ M := hI
  obtain ⟨hlo, hk⟩ := hI
  refine c_sub (L' := [(0, t.val), (1, .slice A N c), (2, .pointer (some ⟨gt, 0, none⟩)), (5, .slice B k cb), (17, .int .i64 (k : Int)), (16, .int .i64 (M : Int))]) ⟨rfl, rfl, rfl, rfl, rfl, rfl, trivial⟩ ?_
  refine c_perm (T := own (.slice B k cb) 3 1 k (in64 lo) :: blk gt t.cells 33 :: F) f0 ?_
  refine c_seq ?_
  refine c_region ?_
  refine s1 (p_lt rfl rfl) rfl rfl rfl ?_
  refine s_nil ?_
  refine x_next ?_
  refine c_seq ?_
  refine c_if rfl (fun h18 => ?_) (fun h18 => ?_)
  · refine c_skip ?_
    refine x_next ?_
    refine c_seq ?_
    refine c_block ?_
    refine c_seq ?_
    refine c_region ?_
    refine s1 (p_move rfl) rfl rfl rfl ?_
    refine s1 (p_assign rfl) rfl rfl rfl ?_
    refine s_nil ?_
    refine x_next ?_
    refine c_seq ?_
    refine c_region ?_
    refine s1 (p_move rfl) rfl rfl rfl ?_
    refine s1 (p_mul rfl rfl (w64 (by omega))) rfl rfl rfl ?_
    refine s1 (p_assign rfl) rfl rfl rfl ?_
    refine s_nil ?_
    refine x_next ?_
    refine c_seq ?_
    refine c_seq ?_
    refine c_region ?_
    refine s1 (p_move rfl) rfl rfl rfl ?_
    refine s1 (p_len Tryz.underlying23 rfl) rfl rfl rfl ?_
    refine s1 (p_gt rfl rfl) rfl rfl rfl ?_
    refine s_nil ?_
    refine x_next ?_
    refine c_if rfl (fun h24 => ?_) (fun h24 => ?_)
    · obtain ⟨a, ha, ha2⟩ := modN (x := (k : Int)) (N := N) (by omega) (by omega)
      obtain ⟨b, hb, hb2⟩ := modN (x := (k : Int) * 7 + 1) (N := N) (by omega) (by omega)
      refine c_draw 21 (own (.slice B k cb) 3 1 k (in64 lo) :: blk gt t.cells 33 :: F) mixed ?_
      refine d_take 0 rfl (p_move rfl) rfl rfl rfl (by kernel_rfl) (fun _ h => h) ?_
      refine d_take 1 rfl (p_move rfl) rfl rfl rfl (by kernel_rfl) (fun _ h => h) ?_
      refine d_take 2 rfl (p_move rfl) rfl rfl rfl (by kernel_rfl) (fun _ h => h) ?_
      refine d_take 3 rfl (p_len Tryz.underlying23 rfl) rfl rfl rfl (by kernel_rfl) (fun _ h => h) ?_
      refine d_take 4 rfl (p_rem rfl rfl (by omega) ((tm (by omega)).trans ha)) rfl rfl rfl (by kernel_rfl) (fun _ h => h) ?_
      refine d_take 5 rfl (p_index (kk := a) Tryz.underlying23 sz5 rfl rfl (rd_tail (rd_tail hr)) (by omega) (by omega) (by omega)) rfl rfl rfl (by kernel_rfl) (fun _ h => h) ?_
      refine d_take 6 rfl (p_loadE Tryz.underlying5 rfl rfl (rd_tail (rd_tail hr)) (by8_get (by omega))) rfl rfl rfl (by kernel_rfl) (fun _ h => h) ?_
      refine d_take 7 rfl (p_conv Tryz.underlying5 Tryz.underlying3 rfl rfl) rfl rfl rfl (by kernel_rfl) (fun _ h => h) ?_
      refine d_take 8 rfl (p_shl rfl rfl (by omega) rfl) rfl rfl rfl (by kernel_rfl) (fun _ h => h) ?_
      refine d_take 9 rfl (p_move rfl) rfl rfl rfl (by kernel_rfl) (fun _ h => h) ?_
      refine d_take 10 rfl (p_move rfl) rfl rfl rfl (by kernel_rfl) (fun _ h => h) ?_
      refine d_take 11 rfl (p_mul rfl rfl (w64 (by omega))) rfl rfl rfl (by kernel_rfl) (fun _ h => h) ?_
      refine d_take 12 rfl (p_add rfl rfl (w64 (by omega))) rfl rfl rfl (by kernel_rfl) (fun _ h => h) ?_
      refine d_take 13 rfl (p_move rfl) rfl rfl rfl (by kernel_rfl) (fun _ h => h) ?_
      refine d_take 14 rfl (p_len Tryz.underlying23 rfl) rfl rfl rfl (by kernel_rfl) (fun _ h => h) ?_
      refine d_take 15 rfl (p_rem rfl rfl (by omega) ((tm (by omega)).trans hb)) rfl rfl rfl (by kernel_rfl) (fun _ h => h) ?_
      refine d_take 16 rfl (p_index (kk := b) Tryz.underlying23 sz5 rfl rfl (rd_tail (rd_tail hr)) (by omega) (by omega) (by omega)) rfl rfl rfl (by kernel_rfl) (fun _ h => h) ?_
      refine d_take 17 rfl (p_loadE Tryz.underlying5 rfl rfl (rd_tail (rd_tail hr)) (by8_get (by omega))) rfl rfl rfl (by kernel_rfl) (fun _ h => h) ?_
      refine d_take 18 rfl (p_conv Tryz.underlying5 Tryz.underlying3 rfl rfl) rfl rfl rfl (by kernel_rfl) (fun _ h => h) ?_
      refine d_take 19 rfl (p_or rfl rfl rfl) rfl rfl rfl (by kernel_rfl) (fun _ h => h) ?_
      refine d_take 20 rfl (p_assign rfl) rfl rfl rfl (by kernel_rfl) (fun _ h => h) ?_
      refine d_done (by kernel_rfl) ?_
      refine x_next ?_
      refine c_region ?_
      refine s1 (p_move rfl) rfl rfl rfl ?_
      refine s1 (p_move rfl) rfl rfl rfl ?_
      refine s1 (p_fieldAddr (fun w => fa33_5 _ w) rfl) rfl rfl rfl ?_
      refine s1 (p_load m1 Tryz.underlying3 rfl rfl rfl) rfl rfl rfl ?_
      refine s1 (p_shl rfl rfl (by omega) rfl) rfl rfl rfl ?_
      refine s1 (p_sub rfl rfl rfl) rfl rfl rfl ?_
      refine s1 (p_and rfl rfl rfl) rfl rfl rfl ?_
      refine s_step (st_buildSlice (e := 3) (size := 1) rfl (fun w => bs43_1 _ w) rfl (by omega)) rfl rfl rfl ?_
      rintro _ _ ⟨g2, rfl, rfl⟩
      refine s_perm f1 ?_
      refine s_step (st_append (xs := in64 lo) Tryz.underlying43 inf3 rfl (by omega) rfl rfl (rd_own m1) (by simp [Value.oneCell']) ⟨by omega, by omega⟩) rfl rfl rfl ?_
      rintro _ _ ⟨A2, c2, rfl, rfl⟩
      refine s_perm f1 ?_
      refine s_sat drop0 ?_
      rw [in64_push]
      refine s1 (p_assign rfl) rfl rfl rfl ?_
      refine s_nil ?_
      refine x_block ?_
      refine x_next ?_
      refine c_region ?_
      refine s1 (p_add rfl rfl (w64 (by omega))) rfl rfl rfl ?_
      refine s1 (p_move rfl) rfl rfl rfl ?_
      refine s_nil ?_
      exact x_loop ⟨A2, k + 1, c2, lo ++ [_]⟩ (⟨by simp [hlo], by first | omega | (dsimp only; omega)⟩) (by first | omega | (dsimp only; omega)) ⟨rfl, rfl, rfl, rfl, rfl, rfl, trivial⟩ ((f1).trans f1)
    · refine c_skip ?_
      refine x_next ?_
      refine c_region ?_
      refine s1 (p_move rfl) rfl rfl rfl ?_
      refine s1 (p_move rfl) rfl rfl rfl ?_
      refine s1 (p_fieldAddr (fun w => fa33_5 _ w) rfl) rfl rfl rfl ?_
      refine s1 (p_load m1 Tryz.underlying3 rfl rfl rfl) rfl rfl rfl ?_
      refine s1 (p_shl rfl rfl (by omega) rfl) rfl rfl rfl ?_
      refine s1 (p_sub rfl rfl rfl) rfl rfl rfl ?_
      refine s1 (p_and rfl rfl rfl) rfl rfl rfl ?_
      refine s_step (st_buildSlice (e := 3) (size := 1) rfl (fun w => bs43_1 _ w) rfl (by omega)) rfl rfl rfl ?_
      rintro _ _ ⟨g2, rfl, rfl⟩
      refine s_perm f1 ?_
      refine s_step (st_append (xs := in64 lo) Tryz.underlying43 inf3 rfl (by omega) rfl rfl (rd_own m1) (by simp [Value.oneCell']) ⟨by omega, by omega⟩) rfl rfl rfl ?_
      rintro _ _ ⟨A2, c2, rfl, rfl⟩
      refine s_perm f1 ?_
      refine s_sat drop0 ?_
      rw [in64_push]
      refine s1 (p_assign rfl) rfl rfl rfl ?_
      refine s_nil ?_
      refine x_block ?_
      refine x_next ?_
      refine c_region ?_
      refine s1 (p_add rfl rfl (w64 (by omega))) rfl rfl rfl ?_
      refine s1 (p_move rfl) rfl rfl rfl ?_
      refine s_nil ?_
      exact x_loop ⟨A2, k + 1, c2, lo ++ [_]⟩ (⟨by simp [hlo], by first | omega | (dsimp only; omega)⟩) (by first | omega | (dsimp only; omega)) ⟨rfl, rfl, rfl, rfl, rfl, rfl, trivial⟩ ((f1).trans f1)
  · refine c_exit ?_
    refine x_exit_then ?_
    refine x_exit_then ?_
    refine x_exit_here ?_
    refine x_next ?_
    refine c_seq ?_
    refine c_region ?_
    refine s1 (p_move rfl) rfl rfl rfl ?_
    refine s1 (p_assign rfl) rfl rfl rfl ?_
    refine s_nil ?_
    refine x_next ?_
    refine c_ret ?_
    obtain rfl : k = M := by omega
    refine x_sat (fun _ h => Sat.tail (Sat.perm (f1) h)) ?_
    exact x_done_one rfl rfl ⟨B, cb, lo, hlo, rfl, rfl⟩

set_option maxRecDepth 100000 in
theorem rowOf_spec {F : List As} (t : Tif) (A : Option Addr) (N c : Nat) (l : List Int) (hl : l.length = N) (hN : N ≤ 100000) (hd : t.depth = 1 ∨ t.depth = 8 ∨ t.depth = 16) (hr : ∀ w, Sat w F → Reads w (.slice A N c) 1 N (in64 l)) :
    Fun Tryz.prog 21 [t.val, .slice A N c] (F) (fun u T => ∃ B cb, ∃ lo : List Int, ∃ k : Nat, lo.length = k ∧ (0 < N → 0 < k) ∧ k ≤ 2 * N ∧ u = .slice B k cb ∧ T = own (.slice B k cb) 5 1 k (by8 lo) :: F) := by
  refine fun_intro Tryz.func21 rfl Tryz.ntmps21 (Nat.le_of_ble_eq_true rfl) ?_
  have hch := t.chan_pos
  refine c_have (p := N ≤ c) (fun w h => (hr w h).cap) ?_
  intro hNc
  refine c_seq ?_
  refine c_region ?_
  refine s_step (st_box rfl) rfl rfl rfl ?_
  rintro _ _ ⟨gt, rfl, rfl⟩
  refine s_perm (T := blk gt t.cells 33 :: _) f0 ?_
  refine s1 (p_assign rfl) rfl rfl rfl ?_
  refine s_nil ?_
  refine x_next ?_
  refine c_seq ?_
  refine c_region ?_
  refine s_step (st_buildSlice (e := 5) (size := 1) rfl (fun w => bs23_0 w) rfl (by omega)) rfl rfl rfl ?_
  rintro _ _ ⟨g1, rfl, rfl⟩
  refine s1 (p_assign rfl) rfl rfl rfl ?_
  refine s_nil ?_
  refine x_next ?_
  refine c_seq ?_
  refine c_region ?_
  refine s1 (p_loadA m1 Tryz.underlying33 rfl sz33 rfl) rfl rfl rfl ?_
  refine s_step (st_call Tryz.func20 nm20 bo20 rfl (chan_spec t)) rfl rfl rfl ?_
  rintro _ _ ⟨rfl, rfl⟩
  refine s1 (p_assign rfl) rfl rfl rfl ?_
  refine s_nil ?_
  refine x_next ?_
  refine c_seq ?_
  refine c_seq ?_
  refine c_region ?_
  refine s1 (p_move rfl) rfl rfl rfl ?_
  refine s1 (p_len Tryz.underlying43 rfl) rfl rfl rfl ?_
  refine s1 (p_move rfl) rfl rfl rfl ?_
  refine s_nil ?_
  refine x_next ?_
  refine c_block ?_
  refine c_loop (α := (Option Addr) × (Nat) × (Nat) × (List Int) × (Nat)) (fun gg => gg.2.2.2.2 ≤ N ∧ gg.2.2.2.1.length = gg.2.1 ∧ gg.2.1 ≤ 2 * gg.2.2.2.2 ∧ (0 < gg.2.2.2.2 → 0 < gg.2.1)) (fun gg => N - gg.2.2.2.2) (fun gg => [(0, t.val), (1, .slice A N c), (2, .pointer (some ⟨gt, 0, none⟩)), (5, .slice gg.1 gg.2.1 gg.2.2.1), (6, .int .i64 t.chan), (12, .slice A N c), (13, .int .i64 (N : Int)), (14, .int .i64 (gg.2.2.2.2 : Int))]) (fun gg => own (.slice gg.1 gg.2.1 gg.2.2.1) 5 1 gg.2.1 (by8 gg.2.2.2.1) :: blk gt t.cells 33 :: F) ⟨_, 0, 0, [], 0⟩ (⟨Nat.zero_le _, rfl, Nat.le_refl _, fun h => h⟩) ⟨rfl, rfl, rfl, rfl, rfl, rfl, rfl, rfl, trivial⟩ ((f1).trans f1) ?_
  rintro ⟨B, m, cb, lo, i⟩ hI
  replace hI : i ≤ N ∧ lo.length = m ∧ m ≤ 2 * i ∧ (0 < i → 0 < m) := hI
  obtain ⟨hi, hlo, hm2, hm0⟩ := hI
  refine c_sub (L' := [(0, t.val), (1, .slice A N c), (2, .pointer (some ⟨gt, 0, none⟩)), (5, .slice B m cb), (6, .int .i64 t.chan), (12, .slice A N c), (13, .int .i64 (N : Int)), (14, .int .i64 (i : Int))]) ⟨rfl, rfl, rfl, rfl, rfl, rfl, rfl, rfl, trivial⟩ ?_
  refine c_perm (T := own (.slice B m cb) 5 1 m (by8 lo) :: blk gt t.cells 33 :: F) f0 ?_
  refine c_seq ?_
  refine c_region ?_
  refine s1 (p_lt rfl rfl) rfl rfl rfl ?_
  refine s_nil ?_
  refine x_next ?_
  refine c_seq ?_
  refine c_if rfl (fun h15 => ?_) (fun h15 => ?_)
  · refine c_skip ?_
    refine x_next ?_
    refine c_seq ?_
    refine c_block ?_
    refine c_seq ?_
    refine c_region ?_
    refine s1 (p_move rfl) rfl rfl rfl ?_
    refine s1 (p_index (kk := i) Tryz.underlying43 sz3 rfl rfl (rd_tail (rd_tail hr)) (by omega) (by omega) (by omega)) rfl rfl rfl ?_
    refine s1 (p_loadE Tryz.underlying3 rfl rfl (rd_tail (rd_tail hr)) (in64_get (by omega))) rfl rfl rfl ?_
    refine s1 (p_assign rfl) rfl rfl rfl ?_
    refine s1 (p_assign rfl) rfl rfl rfl ?_
    refine s_nil ?_
    refine x_next ?_
    refine c_cut (α := (Int)) (fun gg => True) (fun gg => [(0, t.val), (1, .slice A N c), (2, .pointer (some ⟨gt, 0, none⟩)), (5, .slice B m cb), (6, .int .i64 t.chan), (12, .slice A N c), (13, .int .i64 (N : Int)), (14, .int .i64 (i : Int)), (7, .int .i64 (i : Int)), (8, .int .i64 gg)]) (fun gg => own (.slice B m cb) 5 1 m (by8 lo) :: blk gt t.cells 33 :: F) ?_ ?_
    · refine c_seq ?_
      rcases Bool.eq_false_or_eq_true t.ahead with hq | hq
      · refine c_region ?_
        refine s1 (p_fieldAddr (fun w => fa33_7 _ w) rfl) rfl rfl rfl ?_
        refine s1 (pv (p_load m1 Tryz.underlying4 rfl rfl rfl) (congrArg Value.bool hq)) rfl rfl rfl ?_
        refine s1 (p_move rfl) rfl rfl rfl ?_
        refine sg1 (p_move rfl) rfl rfl rfl rfl ?_
        refine sg1 (p_move rfl) rfl rfl rfl rfl ?_
        refine sg1 (p_ge rfl rfl) rfl rfl rfl rfl ?_
        refine s1 (p_pickT rfl rfl) rfl rfl rfl ?_
        refine s_nil ?_
        refine x_next ?_
        refine c_if rfl (fun h25 => ?_) (fun h25 => ?_)
        · refine c_region ?_
          refine s1 (p_move rfl) rfl rfl rfl ?_
          refine s1 (p_move rfl) rfl rfl rfl ?_
          refine s1 (p_move rfl) rfl rfl rfl ?_
          refine s1 (p_move rfl) rfl rfl rfl ?_
          refine s1 (p_sub rfl rfl (w64 (by omega))) rfl rfl rfl ?_
          refine s1 (p_index (kk := ((i : Int) - t.chan).toNat) Tryz.underlying43 sz3 rfl rfl (rd_tail (rd_tail hr)) (by omega) (by omega) (by omega)) rfl rfl rfl ?_
          refine s1 (p_loadE Tryz.underlying3 rfl rfl (rd_tail (rd_tail hr)) (in64_get (by omega))) rfl rfl rfl ?_
          refine s1 (p_sub rfl rfl rfl) rfl rfl rfl ?_
          refine s1 (p_assign rfl) rfl rfl rfl ?_
          refine s_nil ?_
          exact x_cut _ (trivial) ⟨rfl, rfl, rfl, rfl, rfl, rfl, rfl, rfl, rfl, rfl, trivial⟩ ((f1).trans f1)
        · refine c_skip ?_
          exact x_cut _ (trivial) ⟨rfl, rfl, rfl, rfl, rfl, rfl, rfl, rfl, rfl, rfl, trivial⟩ ((f1).trans f1)
      · refine c_region ?_
        refine s1 (p_fieldAddr (fun w => fa33_7 _ w) rfl) rfl rfl rfl ?_
        refine s1 (pv (p_load m1 Tryz.underlying4 rfl rfl rfl) (congrArg Value.bool hq)) rfl rfl rfl ?_
        refine s1 (p_move rfl) rfl rfl rfl ?_
        refine s_skip rfl rfl rfl rfl rfl ?_
        refine s_skip rfl rfl rfl rfl rfl ?_
        refine s_skip rfl rfl rfl rfl rfl ?_
        refine s1 (p_pickF rfl rfl) rfl rfl rfl ?_
        refine s_nil ?_
        refine x_next ?_
        refine c_false rfl ?_
        refine c_skip ?_
        exact x_cut _ (trivial) ⟨rfl, rfl, rfl, rfl, rfl, rfl, rfl, rfl, rfl, rfl, trivial⟩ ((f1).trans f1)
    · rintro v hI
      replace hI : True := hI
      refine c_sub (L' := [(0, t.val), (1, .slice A N c), (2, .pointer (some ⟨gt, 0, none⟩)), (5, .slice B m cb), (6, .int .i64 t.chan), (12, .slice A N c), (13, .int .i64 (N : Int)), (14, .int .i64 (i : Int)), (7, .int .i64 (i : Int)), (8, .int .i64 v)]) ⟨rfl, rfl, rfl, rfl, rfl, rfl, rfl, rfl, rfl, rfl, trivial⟩ ?_
      refine c_perm (T := own (.slice B m cb) 5 1 m (by8 lo) :: blk gt t.cells 33 :: F) f0 ?_
      refine c_block ?_
      refine c_seq ?_
      refine c_region ?_
      refine s1 (p_fieldAddr (fun w => fa33_5 _ w) rfl) rfl rfl rfl ?_
      refine s1 (p_load m1 Tryz.underlying3 rfl rfl rfl) rfl rfl rfl ?_
      refine s1 (p_eq rfl rfl) rfl rfl rfl ?_
      refine s1 (p_assign rfl) rfl rfl rfl ?_
      refine s_nil ?_
      refine x_next ?_
      refine c_if rfl (fun h54 => ?_) (fun h54 => ?_)
      · refine c_region ?_
        refine s1 (p_move rfl) rfl rfl rfl ?_
        refine s1 (p_fieldAddr (fun w => fa33_0 _ w) rfl) rfl rfl rfl ?_
        refine s1 (p_load m1 Tryz.underlying4 rfl rfl rfl) rfl rfl rfl ?_
        refine s1 (p_move rfl) rfl rfl rfl ?_
        refine s1 (p_and rfl rfl rfl) rfl rfl rfl ?_
        refine s_step (st_call Tryz.func24 nm24 bo24 rfl (number_spec t.big 2 _ (by omega))) rfl rfl rfl ?_
        rintro _ _ ⟨A1, c1, rfl, rfl⟩
        refine s_perm f1 ?_
        refine s_step (st_append (xs := by8 lo) Tryz.underlying23 inf5 rfl (by omega) rfl rfl (rd_own m1) (by8_one _) ⟨by omega, by omega⟩) rfl rfl rfl ?_
        rintro _ _ ⟨A2, c2, rfl, rfl⟩
        refine s_perm f1 ?_
        refine s_sat drop0 ?_
        rw [by8_append]
        refine s1 (p_assign rfl) rfl rfl rfl ?_
        refine s_nil ?_
        refine x_block ?_
        refine x_block ?_
        refine x_next ?_
        refine c_region ?_
        refine s1 (p_add rfl rfl (w64 (by omega))) rfl rfl rfl ?_
        refine s1 (p_move rfl) rfl rfl rfl ?_
        refine s_nil ?_
        exact x_loop ⟨A2, m + 2, c2, lo ++ num t.big 2 _, i + 1⟩ (⟨by first | omega | (dsimp only; omega), by simp [hlo, num_length], by first | omega | (dsimp only; omega), fun _ => by dsimp only; omega⟩) (by first | omega | (dsimp only; omega)) ⟨rfl, rfl, rfl, rfl, rfl, rfl, rfl, rfl, trivial⟩ ((f1).trans f1)
      · refine c_seq ?_
        refine c_region ?_
        refine s1 (p_fieldAddr (fun w => fa33_5 _ w) rfl) rfl rfl rfl ?_
        refine s1 (p_load m1 Tryz.underlying3 rfl rfl rfl) rfl rfl rfl ?_
        refine s1 (p_eq rfl rfl) rfl rfl rfl ?_
        refine s1 (p_assign rfl) rfl rfl rfl ?_
        refine s_nil ?_
        refine x_next ?_
        refine c_if rfl (fun h65 => ?_) (fun h65 => ?_)
        · refine c_region ?_
          refine s1 (p_move rfl) rfl rfl rfl ?_
          refine s1 (p_move rfl) rfl rfl rfl ?_
          refine s1 (p_conv Tryz.underlying3 Tryz.underlying5 rfl rfl) rfl rfl rfl ?_
          refine s_step (st_buildSlice (e := 5) (size := 1) rfl (fun w => bs23_1 _ w) rfl (by omega)) rfl rfl rfl ?_
          rintro _ _ ⟨g2, rfl, rfl⟩
          refine s_perm f1 ?_
          refine s_step (st_append (xs := by8 lo) Tryz.underlying23 inf5 rfl (by omega) rfl rfl (rd_own m1) (by simp [Value.oneCell']) ⟨by omega, by omega⟩) rfl rfl rfl ?_
          rintro _ _ ⟨A2, c2, rfl, rfl⟩
          refine s_perm f1 ?_
          refine s_sat drop0 ?_
          rw [by8_push]
          refine s1 (p_assign rfl) rfl rfl rfl ?_
          refine s_nil ?_
          refine x_block ?_
          refine x_block ?_
          refine x_next ?_
          refine c_region ?_
          refine s1 (p_add rfl rfl (w64 (by omega))) rfl rfl rfl ?_
          refine s1 (p_move rfl) rfl rfl rfl ?_
          refine s_nil ?_
          exact x_loop ⟨A2, m + 1, c2, lo ++ [_], i + 1⟩ (⟨by first | omega | (dsimp only; omega), by simp [hlo], by first | omega | (dsimp only; omega), fun _ => by dsimp only; omega⟩) (by first | omega | (dsimp only; omega)) ⟨rfl, rfl, rfl, rfl, rfl, rfl, rfl, rfl, trivial⟩ ((f1).trans f1)
        · refine c_seq ?_
          have hd1 : t.depth = 1 := by omega
          refine c_region ?_
          refine s1 (p_move rfl) rfl rfl rfl ?_
          refine s1 (p_fieldAddr (fun w => fa33_5 _ w) rfl) rfl rfl rfl ?_
          refine s1 (pv (p_load m1 Tryz.underlying3 rfl rfl rfl) (congrArg (Value.int .i64) hd1)) rfl rfl rfl ?_
          refine s1 (p_mul rfl rfl (w64 (by omega))) rfl rfl rfl ?_
          refine s1 (p_rem rfl rfl (by omega) (tm (by omega))) rfl rfl rfl ?_
          refine s1 (p_eq rfl rfl) rfl rfl rfl ?_
          refine s1 (p_assign rfl) rfl rfl rfl ?_
          refine s_nil ?_
          refine x_next ?_
          refine c_if rfl (fun h74 => ?_) (fun h74 => ?_)
          · refine c_region ?_
            refine s1 (p_move rfl) rfl rfl rfl ?_
            refine s1 (p_move rfl) rfl rfl rfl ?_
            refine s1 (p_fieldAddr (fun w => fa33_5 _ w) rfl) rfl rfl rfl ?_
            refine s1 (pv (p_load m1 Tryz.underlying3 rfl rfl rfl) (congrArg (Value.int .i64) hd1)) rfl rfl rfl ?_
            refine s1 (p_sub rfl rfl (w64 (by omega))) rfl rfl rfl ?_
            refine s1 (p_shl rfl rfl (by omega) rfl) rfl rfl rfl ?_
            refine s1 (p_conv Tryz.underlying3 Tryz.underlying5 rfl rfl) rfl rfl rfl ?_
            refine s_step (st_buildSlice (e := 5) (size := 1) rfl (fun w => bs23_1 _ w) rfl (by omega)) rfl rfl rfl ?_
            rintro _ _ ⟨g2, rfl, rfl⟩
            refine s_perm f1 ?_
            refine s_step (st_append (xs := by8 lo) Tryz.underlying23 inf5 rfl (by omega) rfl rfl (rd_own m1) (by simp [Value.oneCell']) ⟨by omega, by omega⟩) rfl rfl rfl ?_
            rintro _ _ ⟨A2, c2, rfl, rfl⟩
            refine s_perm f1 ?_
            refine s_sat drop0 ?_
            rw [by8_push]
            refine s1 (p_assign rfl) rfl rfl rfl ?_
            refine s_nil ?_
            refine x_block ?_
            refine x_block ?_
            refine x_next ?_
            refine c_region ?_
            refine s1 (p_add rfl rfl (w64 (by omega))) rfl rfl rfl ?_
            refine s1 (p_move rfl) rfl rfl rfl ?_
            refine s_nil ?_
            exact x_loop ⟨A2, m + 1, c2, lo ++ [_], i + 1⟩ (⟨by first | omega | (dsimp only; omega), by simp [hlo], by first | omega | (dsimp only; omega), fun _ => by dsimp only; omega⟩) (by first | omega | (dsimp only; omega)) ⟨rfl, rfl, rfl, rfl, rfl, rfl, rfl, rfl, trivial⟩ ((f1).trans f1)
          · have hi0 : 0 < i := by omega
            have hmp := hm0 hi0
            refine c_draw 20 (own (.slice B m cb) 5 1 m (by8 lo) :: blk gt t.cells 33 :: F) mixed ?_
            refine d_take 0 rfl (p_move rfl) rfl rfl rfl (by kernel_rfl) (fun _ h => h) ?_
            refine d_take 1 rfl (p_move rfl) rfl rfl rfl (by kernel_rfl) (fun _ h => h) ?_
            refine d_take 2 rfl (p_len Tryz.underlying23 rfl) rfl rfl rfl (by kernel_rfl) (fun _ h => h) ?_
            refine d_take 3 rfl (p_sub rfl rfl (w64 (by omega))) rfl rfl rfl (by kernel_rfl) (fun _ h => h) ?_
            refine d_take 4 rfl (p_index (kk := m - 1) Tryz.underlying23 sz5 rfl rfl (rd_own m0) (by omega) (by omega) (by omega)) rfl rfl rfl (by kernel_rfl) (fun _ h => h) ?_
            refine d_take 5 rfl (p_loadE Tryz.underlying5 rfl rfl (rd_own m0) (by8_get (by omega))) rfl rfl rfl (by kernel_rfl) (fun _ h => h) ?_
            refine d_take 6 rfl (p_move rfl) rfl rfl rfl (by kernel_rfl) (fun _ h => h) ?_
            refine d_take 7 rfl (p_fieldAddr (fun w => fa33_5 _ w) rfl) rfl rfl rfl (by kernel_rfl) (fun _ h => h) ?_
            refine d_take 8 rfl (pv (p_load m1 Tryz.underlying3 rfl rfl rfl) (congrArg (Value.int .i64) hd1)) rfl rfl rfl (by kernel_rfl) (fun _ h => h) ?_
            refine d_take 9 rfl (p_sub rfl rfl (w64 (by omega))) rfl rfl rfl (by kernel_rfl) (fun _ h => h) ?_
            refine d_take 10 rfl (p_move rfl) rfl rfl rfl (by kernel_rfl) (fun _ h => h) ?_
            refine d_take 11 rfl (p_fieldAddr (fun w => fa33_5 _ w) rfl) rfl rfl rfl (by kernel_rfl) (fun _ h => h) ?_
            refine d_take 12 rfl (pv (p_load m1 Tryz.underlying3 rfl rfl rfl) (congrArg (Value.int .i64) hd1)) rfl rfl rfl (by kernel_rfl) (fun _ h => h) ?_
            refine d_take 13 rfl (p_mul rfl rfl (w64 (by omega))) rfl rfl rfl (by kernel_rfl) (fun _ h => h) ?_
            refine d_take 14 rfl (p_rem rfl rfl (by omega) (tm (by omega))) rfl rfl rfl (by kernel_rfl) (fun _ h => h) ?_
            refine d_take 15 rfl (p_sub rfl rfl (w64 (by omega))) rfl rfl rfl (by kernel_rfl) (fun _ h => h) ?_
            refine d_take 16 rfl (p_shl rfl rfl (by omega) rfl) rfl rfl rfl (by kernel_rfl) (fun _ h => h) ?_
            refine d_take 17 rfl (p_conv Tryz.underlying3 Tryz.underlying5 rfl rfl) rfl rfl rfl (by kernel_rfl) (fun _ h => h) ?_
            refine d_take 18 rfl (p_or rfl rfl rfl) rfl rfl rfl (by kernel_rfl) (fun _ h => h) ?_
            refine d_take 19 rfl (p_index (kk := m - 1) Tryz.underlying23 sz5 rfl rfl (rd_own m0) (by omega) (by omega) (by omega)) rfl rfl rfl (by kernel_rfl) (fun _ h => h) ?_
            refine d_step0 20 rfl (by kernel_rfl) (st_storeE rfl rfl rfl sz5 (by omega)) rfl rfl ?_
            rintro _ _ rfl
            refine ⟨fun h => absurd rfl h, ?_⟩
            refine d_done (by kernel_rfl) ?_
            rw [by8_set]
            refine x_block ?_
            refine x_block ?_
            refine x_next ?_
            refine c_region ?_
            refine s1 (p_add rfl rfl (w64 (by omega))) rfl rfl rfl ?_
            refine s1 (p_move rfl) rfl rfl rfl ?_
            refine s_nil ?_
            exact x_loop ⟨B, m, cb, lo.set _ _, i + 1⟩ (⟨by first | omega | (dsimp only; omega), by simp [hlo], by first | omega | (dsimp only; omega), fun _ => by dsimp only; omega⟩) (by first | omega | (dsimp only; omega)) ⟨rfl, rfl, rfl, rfl, rfl, rfl, rfl, rfl, trivial⟩ ((f1).trans f1)
  · refine c_exit ?_
    refine x_exit_then ?_
    refine x_exit_then ?_
    refine x_exit_here ?_
    refine x_next ?_
    refine c_seq ?_
    refine c_region ?_
    refine s1 (p_move rfl) rfl rfl rfl ?_
    refine s1 (p_assign rfl) rfl rfl rfl ?_
    refine s_nil ?_
    refine x_next ?_
    refine c_ret ?_
    refine x_sat (fun _ h => Sat.tail (Sat.perm (f1) h)) ?_
    exact x_done_one rfl rfl ⟨B, cb, lo, m, hlo, fun h => hm0 (by omega), by omega, rfl, rfl⟩

end V
end Go.Proofs.YtaflcjoagfnhfaaGreatDoor
