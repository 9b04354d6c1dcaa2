/- Walks: readers and small things. -/
import Derived.Test.YtaflcjoagfnhfaaGreatDoorT
namespace Go.Proofs.YtaflcjoagfnhfaaGreatDoor
namespace V
open Go Go.Proofs

theorem bOr_comm (k : IntKind) (a b : Int) : bOr k a b = bOr k b a := by unfold bOr; rw [BitVec.or_comm]
theorem shl64 {y s : Nat} (hs : s ≤ 24) (hy : y ≤ 4294967295) : IntKind.i64.wrap ((y : Int) * 2 ^ min ((s : Int)).toNat IntKind.i64.bits) = ((y * 2 ^ s : Nat) : Int) := by
  have e1 : min ((s : Int)).toNat IntKind.i64.bits = s := by
    have : IntKind.i64.bits = 64 := rfl
    omega
  have e2 : (y : Int) * 2 ^ s = ((y * 2 ^ s : Nat) : Int) := by rw [Int.natCast_mul, Int.natCast_pow]; rfl
  have h1 : y * 2 ^ s ≤ 4294967295 * 2 ^ 24 := Nat.mul_le_mul hy (Nat.pow_le_pow_right (by omega) hs)
  rw [e1, e2]
  exact w64 ⟨by omega, by omega⟩
theorem or64 {a b i : Nat} (ha : a < 2 ^ i) (hb : a + b * 2 ^ i < 2 ^ 32) : bOr .i64 (a : Int) ((b * 2 ^ i : Nat) : Int) = ((a + b * 2 ^ i : Nat) : Int) := orAdd (by simp) ha (.inr ⟨by simp, hb⟩) rfl
/-- What stands ahead of the rows. -/
theorem head0 (big : Bool) (R : Nat) (X : List Int) : (hd8 big R ++ X).getD 0 0 = (if big then 77 else 73) := by cases big <;> rfl
theorem head4 (big : Bool) (R : Nat) (X : List Int) {k : Nat} (hk : k < 4) : (hd8 big R ++ X).getD (4 + k) 0 = numAt big 4 (8 + (R : Int)) k := by
  rcases (show k = 0 ∨ k = 1 ∨ k = 2 ∨ k = 3 by omega) with rfl | rfl | rfl | rfl <;> cases big <;> rfl
theorem numByte {big : Bool} {n k : Nat} (_hk : k < 4) : numAt big 4 (n : Int) k = ((n / 256 ^ (if big then 3 - k else k) % 256 : Nat) : Int) := by
  unfold numAt
  rw [Int.natCast_emod, Int.natCast_ediv, Int.natCast_pow]
  rfl

set_option maxRecDepth 100000 in
theorem read_spec {F : List As} (big : Bool) (n : Nat) (hn : n ≤ 4294967295) (A : Option Addr) (N c : Nat) (l : List Int) (hl : l.length = N) (hN : 8 ≤ N ∧ N ≤ 1000000000) (hby : ∀ k, k < 4 → l.getD (4 + k) 0 = numAt big 4 (n : Int) k) (hr : ∀ w, Sat w F → Reads w (.slice A N c) 1 N (by8 l)) :
    Fun Tryz.prog 19 [.bool big, .int .i64 4, .slice A N c, .int .i64 4] (F) (fun u T => u = .int .i64 (n : Int) ∧ T = F) := by
  refine fun_intro Tryz.func19 rfl Tryz.ntmps19 (Nat.le_of_ble_eq_true rfl) ?_
  refine c_seq ?_
  refine c_region ?_
  refine s1 (p_assign rfl) rfl rfl rfl ?_
  refine s_nil ?_
  refine x_next ?_
  refine c_seq ?_
  refine c_region ?_
  refine s1 (p_assign rfl) rfl rfl rfl ?_
  refine s_nil ?_
  refine x_next ?_
  refine c_seq ?_
  refine c_seq ?_
  refine c_region ?_
  refine s1 (p_move rfl) rfl rfl rfl ?_
  refine s1 (p_move rfl) rfl rfl rfl ?_
  refine s_nil ?_
  refine x_next ?_
  refine c_block ?_
  refine c_loop (α := (Nat) × (Nat)) (fun gg => gg.1 ≤ 4 ∧ gg.2 = (if big then n / 256 ^ (4 - gg.1) else n % 256 ^ gg.1)) (fun gg => 4 - gg.1) (fun gg => [(0, .bool big), (1, .int .i64 4), (2, .slice A N c), (3, .int .i64 4), (9, .int .i64 (gg.2 : Int)), (11, .int .i64 4), (12, .int .i64 (gg.1 : Int))]) (fun gg => F) ⟨0, 0⟩ (⟨Nat.zero_le _, by cases big <;> simp <;> omega⟩) ⟨rfl, rfl, rfl, rfl, rfl, rfl, rfl, trivial⟩ (f0) ?_
  rintro ⟨k, x⟩ hI
  replace hI : k ≤ 4 ∧ x = (if big then n / 256 ^ (4 - k) else n % 256 ^ k) := hI
  obtain ⟨hk, hx⟩ := hI
  refine c_sub (L' := [(0, .bool big), (1, .int .i64 4), (2, .slice A N c), (3, .int .i64 4), (9, .int .i64 (x : Int)), (11, .int .i64 4), (12, .int .i64 (k : Int))]) ⟨rfl, rfl, rfl, rfl, rfl, rfl, rfl, trivial⟩ ?_
  refine c_perm (T := F) f0 ?_
  refine c_seq ?_
  refine c_region ?_
  refine s1 (p_lt rfl rfl) rfl rfl rfl ?_
  refine s_nil ?_
  refine x_next ?_
  refine c_seq ?_
  refine c_if rfl (fun h13 => ?_) (fun h13 => ?_)
  · refine c_skip ?_
    refine x_next ?_
    refine c_seq ?_
    refine c_block ?_
    refine c_seq ?_
    refine c_region ?_
    refine s1 (p_move rfl) rfl rfl rfl ?_
    refine s1 (p_assign rfl) rfl rfl rfl ?_
    refine s_nil ?_
    refine x_next ?_
    refine c_seq ?_
    have hb4 := hby k (by omega)
    rw [numByte (by omega)] at hb4
    obtain ⟨y, hy⟩ : ∃ y, n / 256 ^ (if big then 3 - k else k) % 256 = y := ⟨_, rfl⟩
    have hy2 : y ≤ 255 := by rw [← hy]; omega
    rw [hy] at hb4
    refine c_region ?_
    refine s1 (p_move rfl) rfl rfl rfl ?_
    refine s_nil ?_
    refine x_next ?_
    refine c_ifb rfl (fun h15 => ?_) (fun h15 => ?_)
    · rw [h15] at hx hy
      simp only [if_true] at hx hy
      have hx2 : x ≤ 16777215 := by rw [hx]; rcases (show k = 0 ∨ k = 1 ∨ k = 2 ∨ k = 3 by omega) with rfl | rfl | rfl | rfl <;> simp <;> omega
      refine c_region ?_
      refine s1 (p_move rfl) rfl rfl rfl ?_
      refine s1 (p_shl rfl rfl (by omega) (shl64 (s := 8) (by omega) (by omega))) rfl rfl rfl ?_
      refine s1 (p_move rfl) rfl rfl rfl ?_
      refine s1 (p_move rfl) rfl rfl rfl ?_
      refine s1 (p_move rfl) rfl rfl rfl ?_
      refine s1 (p_add rfl rfl (w64 (by omega))) rfl rfl rfl ?_
      refine s1 (p_index (kk := 4 + k) Tryz.underlying23 sz5 rfl rfl hr (by omega) (by omega) (by omega)) rfl rfl rfl ?_
      refine s1 (p_loadE Tryz.underlying5 rfl rfl hr (getP hb4 (by omega))) rfl rfl rfl ?_
      refine s1 (p_conv Tryz.underlying5 Tryz.underlying3 rfl (w64 (by omega))) rfl rfl rfl ?_
      refine s1 (p_or rfl rfl ((bOr_comm _ _ _).trans (or64 (a := y) (b := x) (i := 8) (by omega) (by omega)))) rfl rfl rfl ?_
      refine s1 (p_assign rfl) rfl rfl rfl ?_
      refine s_nil ?_
      refine x_block ?_
      refine x_next ?_
      refine c_region ?_
      refine s1 (p_add rfl rfl (w64 (by omega))) rfl rfl rfl ?_
      refine s1 (p_move rfl) rfl rfl rfl ?_
      refine s_nil ?_
      exact x_loop ⟨k + 1, y + x * 2 ^ 8⟩ (⟨by dsimp only; omega, by dsimp only; rw [h15, if_pos rfl, hx, ← hy]; rcases (show k = 0 ∨ k = 1 ∨ k = 2 ∨ k = 3 by omega) with rfl | rfl | rfl | rfl <;> simp <;> omega⟩) (by dsimp only; omega) ⟨rfl, rfl, rfl, rfl, rfl, rfl, rfl, trivial⟩ (f0)
    · rw [show big = false by simpa using h15] at hx hy
      simp only [Bool.false_eq_true, if_false] at hx hy
      have hx2 : x < 2 ^ (8 * k) ∧ x + y * 2 ^ (8 * k) < 2 ^ 32 := by rw [hx]; rcases (show k = 0 ∨ k = 1 ∨ k = 2 ∨ k = 3 by omega) with rfl | rfl | rfl | rfl <;> simp <;> omega
      refine c_region ?_
      refine s1 (p_move rfl) rfl rfl rfl ?_
      refine s1 (p_move rfl) rfl rfl rfl ?_
      refine s1 (p_move rfl) rfl rfl rfl ?_
      refine s1 (p_move rfl) rfl rfl rfl ?_
      refine s1 (p_add rfl rfl (w64 (by omega))) rfl rfl rfl ?_
      refine s1 (p_index (kk := 4 + k) Tryz.underlying23 sz5 rfl rfl hr (by omega) (by omega) (by omega)) rfl rfl rfl ?_
      refine s1 (p_loadE Tryz.underlying5 rfl rfl hr (getP hb4 (by omega))) rfl rfl rfl ?_
      refine s1 (p_conv Tryz.underlying5 Tryz.underlying3 rfl (w64 (by omega))) rfl rfl rfl ?_
      refine s1 (p_move rfl) rfl rfl rfl ?_
      refine s1 (p_mul rfl rfl ((w64 (by omega)).trans (show 8 * (k : Int) = ((8 * k : Nat) : Int) by omega))) rfl rfl rfl ?_
      refine s1 (p_shl rfl rfl (by omega) (shl64 (by omega) (by omega))) rfl rfl rfl ?_
      refine s1 (p_or rfl rfl (or64 hx2.1 hx2.2)) rfl rfl rfl ?_
      refine s1 (p_assign rfl) rfl rfl rfl ?_
      refine s_nil ?_
      refine x_block ?_
      refine x_next ?_
      refine c_region ?_
      refine s1 (p_add rfl rfl (w64 (by omega))) rfl rfl rfl ?_
      refine s1 (p_move rfl) rfl rfl rfl ?_
      refine s_nil ?_
      exact x_loop ⟨k + 1, x + y * 2 ^ (8 * k)⟩ (⟨by dsimp only; omega, by dsimp only; rw [show big = false by simpa using h15, if_neg (by simp), hx, ← hy]; rcases (show k = 0 ∨ k = 1 ∨ k = 2 ∨ k = 3 by omega) with rfl | rfl | rfl | rfl <;> simp <;> omega⟩) (by dsimp only; omega) ⟨rfl, rfl, rfl, rfl, rfl, rfl, rfl, trivial⟩ (f0)
  · refine c_exit ?_
    refine x_exit_then ?_
    refine x_exit_then ?_
    refine x_exit_here ?_
    refine x_next ?_
    refine c_seq ?_
    refine c_region ?_
    refine s1 (p_move rfl) rfl rfl rfl ?_
    refine s1 (p_assign rfl) rfl rfl rfl ?_
    refine s_nil ?_
    refine x_next ?_
    refine c_ret ?_
    obtain rfl : k = 4 := by omega
    exact x_done_one rfl rfl ⟨by rw [hx]; congr 1; cases big <;> simp <;> omega, rfl⟩

set_option maxRecDepth 100000 in
theorem directory_spec {F : List As} (big : Bool) (n : Nat) (hn : n ≤ 4294967295) (A : Option Addr) (N c : Nat) (l : List Int) (hl : l.length = N) (hN : 8 ≤ N ∧ N ≤ 1000000000) (h0 : l.getD 0 0 = (if big then 77 else 73)) (hby : ∀ k, k < 4 → l.getD (4 + k) 0 = numAt big 4 (n : Int) k) (hr : ∀ w, Sat w F → Reads w (.slice A N c) 1 N (by8 l)) :
    Fun Tryz.prog 7 [.slice A N c] (F) (fun u T => u = .int .i64 (n : Int) ∧ T = F) := by
  refine fun_intro Tryz.func7 rfl Tryz.ntmps7 (Nat.le_of_ble_eq_true rfl) ?_
  refine c_seq ?_
  refine c_region ?_
  refine s1 (p_assign rfl) rfl rfl rfl ?_
  refine s_nil ?_
  refine x_next ?_
  refine c_seq ?_
  refine c_region ?_
  refine s1 (p_move rfl) rfl rfl rfl ?_
  refine s1 (p_index (kk := 0) Tryz.underlying23 sz5 rfl rfl hr (by omega) (by omega) (by omega)) rfl rfl rfl ?_
  refine s1 (p_loadE Tryz.underlying5 rfl rfl hr (by8_get (by omega))) rfl rfl rfl ?_
  refine s1 (pv (p_eq rfl rfl) (congrArg Value.bool (show decide (l.getD 0 0 = 77) = big by rw [h0]; cases big <;> rfl))) rfl rfl rfl ?_
  refine s1 (p_move rfl) rfl rfl rfl ?_
  refine s_step (st_call Tryz.func19 nm19 bo19 rfl (read_spec big n hn A N c l hl hN hby hr)) rfl rfl rfl ?_
  rintro _ _ ⟨rfl, rfl⟩
  refine s1 (p_assign rfl) rfl rfl rfl ?_
  refine s_nil ?_
  refine x_next ?_
  refine c_ret ?_
  exact x_done_one rfl rfl ⟨rfl, rfl⟩

set_option maxRecDepth 100000 in
theorem clone_spec {F : List As} (A : Option Addr) (N c : Nat) (l : List Int) (_hl : l.length = N) (hN : 1 ≤ N ∧ N ≤ 1000000000) (hr : ∀ w, Sat w F → Reads w (.slice A N c) 1 N (by8 l)) :
    Fun Tryz.prog 16 [.slice A N c] (F) (fun u T => ∃ A2 c2, u = .slice A2 N c2 ∧ T = own (.slice A2 N c2) 5 1 N (by8 l) :: F) := by
  refine fun_intro Tryz.func16 rfl Tryz.ntmps16 (Nat.le_of_ble_eq_true rfl) ?_
  refine c_seq ?_
  refine c_region ?_
  refine s1 (p_assign rfl) rfl rfl rfl ?_
  refine s_nil ?_
  refine x_next ?_
  refine c_seq ?_
  refine c_seq ?_
  refine c_have (p := ∃ a, A = some a) (fun w h => by obtain ⟨_, _, A1, c1, hv, _, _, hc⟩ := hr w h; simp only [Value.slice.injEq] at hv; obtain ⟨rfl, _, _⟩ := hv; obtain ⟨a, ha, _⟩ := hc (by omega); exact ⟨a, ha⟩) ?_
  rintro ⟨a, rfl⟩
  refine c_region ?_
  refine s1 (p_move rfl) rfl rfl rfl ?_
  refine s1 (p_sliceNe Tryz.underlying23 rfl) rfl rfl rfl ?_
  refine s_nil ?_
  refine x_next ?_
  refine c_false rfl ?_
  refine c_skip ?_
  refine x_next ?_
  refine c_seq ?_
  refine c_region ?_
  refine s_step (st_buildSlice (e := 5) (size := 1) rfl (fun w => bs23_0 w) rfl (by omega)) rfl rfl rfl ?_
  rintro _ _ ⟨g1, rfl, rfl⟩
  refine s1 (p_move rfl) rfl rfl rfl ?_
  refine s_step (st_append (xs := by8 []) Tryz.underlying23 inf5 rfl (by omega) rfl rfl (rd_tail hr) (by8_one _) ⟨by omega, by omega⟩) rfl rfl rfl ?_
  rintro _ _ ⟨A2, c2, rfl, rfl⟩
  rw [by8_append, List.nil_append, Nat.zero_add]
  refine s1 (p_assign rfl) rfl rfl rfl ?_
  refine s_nil ?_
  refine x_next ?_
  refine c_ret ?_
  exact x_done_one rfl rfl ⟨A2, c2, rfl, rfl⟩

set_option maxRecDepth 100000 in
theorem newReader_spec {F : List As} (A : Option Addr) (N c : Nat) :
    Fun Tryz.prog 15 [.slice A N c] (F) (fun u T => ∃ gr, u = .pointer (some ⟨gr, 0, none⟩) ∧ T = blk gr [.slice A N c, .int .i64 0, .int .i64 (-1)] 82 :: F) := by
  refine fun_intro Tryz.func15 rfl Tryz.ntmps15 (Nat.le_of_ble_eq_true rfl) ?_
  refine c_seq ?_
  refine c_region ?_
  refine s1 (p_assign rfl) rfl rfl rfl ?_
  refine s_nil ?_
  refine x_next ?_
  refine c_seq ?_
  refine c_region ?_
  refine s1 (p_move rfl) rfl rfl rfl ?_
  refine s1 (p_build rfl (fun w => bd82 _ _ _ w)) rfl rfl rfl ?_
  refine s_step (st_box rfl) rfl rfl rfl ?_
  rintro _ _ ⟨gr, rfl, rfl⟩
  refine s1 (p_assign rfl) rfl rfl rfl ?_
  refine s_nil ?_
  refine x_next ?_
  refine c_ret ?_
  exact x_done_one rfl rfl ⟨gr, rfl, rfl⟩

set_option maxRecDepth 100000 in
theorem newReaderAt_spec {F : List As} (gr : Nat) :
    Fun Tryz.prog 30 [.iface 53 (.pointer (some ⟨gr, 0, none⟩))] (F) (fun u T => u = .iface 53 (.pointer (some ⟨gr, 0, none⟩)) ∧ T = F) := by
  refine fun_intro Tryz.func30 rfl Tryz.ntmps30 (Nat.le_of_ble_eq_true rfl) ?_
  refine c_seq ?_
  refine c_region ?_
  refine s1 (p_assign rfl) rfl rfl rfl ?_
  refine s_nil ?_
  refine x_next ?_
  refine c_seq ?_
  refine c_seq ?_
  refine c_region ?_
  refine s1 (p_move rfl) rfl rfl rfl ?_
  refine s1 (p_typeAssert (fun w => ta53 gr w) rfl) rfl rfl rfl ?_
  refine s1 (p_move rfl) rfl rfl rfl ?_
  refine s1 (p_extract rfl rfl) rfl rfl rfl ?_
  refine s1 (p_extract rfl rfl) rfl rfl rfl ?_
  refine s1 (p_assign rfl) rfl rfl rfl ?_
  refine s1 (p_assign rfl) rfl rfl rfl ?_
  refine s_nil ?_
  refine x_next ?_
  refine c_seq ?_
  refine c_region ?_
  refine s1 (p_move rfl) rfl rfl rfl ?_
  refine s_nil ?_
  refine x_next ?_
  refine c_true rfl ?_
  refine c_seq ?_
  refine c_region ?_
  refine s1 (p_move rfl) rfl rfl rfl ?_
  refine s1 (p_assign rfl) rfl rfl rfl ?_
  refine s_nil ?_
  refine x_next ?_
  refine c_ret ?_
  refine x_ret_then ?_
  exact x_done_one rfl rfl ⟨rfl, rfl⟩

set_option maxRecDepth 100000 in
theorem rgba_spec {F : List As} (x y z q : Int) (hx : 0 ≤ x ∧ x ≤ 65535) (hy : 0 ≤ y ∧ y ≤ 65535) (hz : 0 ≤ z ∧ z ≤ 65535) (hq : 0 ≤ q ∧ q ≤ 65535) :
    Fun Tryz.prog 103 [.agg [.int .u16 x, .int .u16 y, .int .u16 z, .int .u16 q].toArray] (F) (fun u T => u = .tuple #[.int .u32 x, .int .u32 y, .int .u32 z, .int .u32 q] ∧ T = F) := by
  refine fun_intro Tryz.func103 rfl Tryz.ntmps103 (Nat.le_of_ble_eq_true rfl) ?_
  refine c_seq ?_
  refine c_region ?_
  refine s_step (st_box rfl) rfl rfl rfl ?_
  rintro _ _ ⟨gc, rfl, rfl⟩
  refine s_perm (T := blk gc [.int .u16 x, .int .u16 y, .int .u16 z, .int .u16 q] 139 :: F) f0 ?_
  refine s1 (p_assign rfl) rfl rfl rfl ?_
  refine s1 (p_assign rfl) rfl rfl rfl ?_
  refine s1 (p_assign rfl) rfl rfl rfl ?_
  refine s1 (p_assign rfl) rfl rfl rfl ?_
  refine s_nil ?_
  refine x_next ?_
  refine c_seq ?_
  refine c_draw 16 (blk gc [.int .u16 x, .int .u16 y, .int .u16 z, .int .u16 q] 139 :: F) mixed ?_
  refine d_take 0 rfl (p_fieldAddr (fun w => fa139_0 _ w) rfl) rfl rfl rfl (by kernel_rfl) (fun _ h => h) ?_
  refine d_take 1 rfl (p_load m0 Tryz.underlying100 rfl rfl rfl) rfl rfl rfl (by kernel_rfl) (fun _ h => h) ?_
  refine d_take 2 rfl (p_conv Tryz.underlying100 Tryz.underlying22 rfl (wu32 (by omega))) rfl rfl rfl (by kernel_rfl) (fun _ h => h) ?_
  refine d_take 3 rfl (p_fieldAddr (fun w => fa139_1 _ w) rfl) rfl rfl rfl (by kernel_rfl) (fun _ h => h) ?_
  refine d_take 4 rfl (p_load m0 Tryz.underlying100 rfl rfl rfl) rfl rfl rfl (by kernel_rfl) (fun _ h => h) ?_
  refine d_take 5 rfl (p_conv Tryz.underlying100 Tryz.underlying22 rfl (wu32 (by omega))) rfl rfl rfl (by kernel_rfl) (fun _ h => h) ?_
  refine d_take 6 rfl (p_fieldAddr (fun w => fa139_2 _ w) rfl) rfl rfl rfl (by kernel_rfl) (fun _ h => h) ?_
  refine d_take 7 rfl (p_load m0 Tryz.underlying100 rfl rfl rfl) rfl rfl rfl (by kernel_rfl) (fun _ h => h) ?_
  refine d_take 8 rfl (p_conv Tryz.underlying100 Tryz.underlying22 rfl (wu32 (by omega))) rfl rfl rfl (by kernel_rfl) (fun _ h => h) ?_
  refine d_take 9 rfl (p_fieldAddr (fun w => fa139_3 _ w) rfl) rfl rfl rfl (by kernel_rfl) (fun _ h => h) ?_
  refine d_take 10 rfl (p_load m0 Tryz.underlying100 rfl rfl rfl) rfl rfl rfl (by kernel_rfl) (fun _ h => h) ?_
  refine d_take 11 rfl (p_conv Tryz.underlying100 Tryz.underlying22 rfl (wu32 (by omega))) rfl rfl rfl (by kernel_rfl) (fun _ h => h) ?_
  refine d_take 12 rfl (p_assign rfl) rfl rfl rfl (by kernel_rfl) (fun _ h => h) ?_
  refine d_take 13 rfl (p_assign rfl) rfl rfl rfl (by kernel_rfl) (fun _ h => h) ?_
  refine d_take 14 rfl (p_assign rfl) rfl rfl rfl (by kernel_rfl) (fun _ h => h) ?_
  refine d_take 15 rfl (p_assign rfl) rfl rfl rfl (by kernel_rfl) (fun _ h => h) ?_
  refine d_done (by kernel_rfl) ?_
  refine x_next ?_
  refine c_ret ?_
  refine x_sat drop0 ?_
  exact x_done_four rfl rfl rfl rfl rfl ⟨rfl, rfl⟩

set_option maxRecDepth 100000 in
theorem readAt_spec {F : List As} (gr gb m cb k c2 : Nat) (A : Option Addr) (N c : Nat) (l : List Int) (_hl : l.length = N) (off : Nat) (lb : List Int) (hk : k ≤ m) (hk0 : 0 < k) (hoff : off + k ≤ N) (_hN : N ≤ 1000000000) (hb : blk gr [.slice A N c, .int .i64 0, .int .i64 (-1)] 82 ∈ F) (hr : ∀ w, Sat w F → Reads w (.slice A N c) 1 N (by8 l)) :
    Fun Tryz.prog 75 [.pointer (some ⟨gr, 0, none⟩), .slice (some ⟨gb, 0, none⟩) k c2, .int .i64 (off : Int)] (own (.slice (some ⟨gb, 0, none⟩) m cb) 5 1 m (by8 lb) :: F) (fun u T => u = .tuple #[.int .i64 (k : Int), .nilIface] ∧ T = own (.slice (some ⟨gb, 0, none⟩) m cb) 5 1 m (by8 ((l.drop off).take k ++ lb.drop k)) :: F) := by
  refine fun_intro Tryz.func75 rfl Tryz.ntmps75 (Nat.le_of_ble_eq_true rfl) ?_
  refine c_have (p := N ≤ c) (fun w h => (hr w h.tail).cap) ?_
  intro hNc
  refine c_seq ?_
  refine c_region ?_
  refine s1 (p_assign rfl) rfl rfl rfl ?_
  refine s1 (p_assign rfl) rfl rfl rfl ?_
  refine s_nil ?_
  refine x_next ?_
  refine c_seq ?_
  refine c_seq ?_
  refine c_region ?_
  refine s1 (p_move rfl) rfl rfl rfl ?_
  refine s1 (pb_false (p_lt rfl rfl) (by omega)) rfl rfl rfl ?_
  refine s_nil ?_
  refine x_next ?_
  refine c_false rfl ?_
  refine c_skip ?_
  refine x_next ?_
  refine c_seq ?_
  refine c_seq ?_
  refine c_region ?_
  refine s1 (p_move rfl) rfl rfl rfl ?_
  refine s1 (p_move rfl) rfl rfl rfl ?_
  refine s1 (p_nilCheck rfl) rfl rfl rfl ?_
  refine s1 (p_fieldAddr (fun w => fa82_0 _ w) rfl) rfl rfl rfl ?_
  refine s1 (p_load (List.mem_cons_of_mem _ hb) Tryz.underlying23 rfl rfl rfl) rfl rfl rfl ?_
  refine s1 (p_len Tryz.underlying23 rfl) rfl rfl rfl ?_
  refine s1 (pb_false (p_ge rfl rfl) (by omega)) rfl rfl rfl ?_
  refine s_nil ?_
  refine x_next ?_
  refine c_false rfl ?_
  refine c_skip ?_
  refine x_next ?_
  refine c_seq ?_
  refine c_region ?_
  refine s1 (p_move rfl) rfl rfl rfl ?_
  refine s1 (p_move rfl) rfl rfl rfl ?_
  refine s1 (p_nilCheck rfl) rfl rfl rfl ?_
  refine s1 (p_fieldAddr (fun w => fa82_0 _ w) rfl) rfl rfl rfl ?_
  refine s1 (p_load (List.mem_cons_of_mem _ hb) Tryz.underlying23 rfl rfl rfl) rfl rfl rfl ?_
  refine s1 (p_move rfl) rfl rfl rfl ?_
  refine s1 (p_sliceL (l := off) Tryz.underlying23 sz5 rfl rfl rfl (by omega) (by omega)) rfl rfl rfl ?_
  refine s_step (st_copy (ys := by8 ((l.drop off).take (N - off))) Tryz.underlying23 sz5 rfl rfl hk (by omega) hk0 (rd_slice8 (rd_tail hr) (by omega) (Nat.le_refl _)) (by8_one _)) rfl rfl rfl ?_
  rintro _ _ ⟨rfl, rfl⟩
  rw [show (by8 ((l.drop off).take (N - off))).take k ++ (by8 lb).drop k = by8 ((l.drop off).take k ++ lb.drop k) by simp only [by8, ← List.map_take, ← List.map_drop, ← List.map_append, List.take_take]; rw [show min k (N - off) = k by omega]]
  refine s1 (p_assign rfl) rfl rfl rfl ?_
  refine s_nil ?_
  refine x_next ?_
  refine c_seq ?_
  refine c_seq ?_
  refine c_region ?_
  refine s1 (p_move rfl) rfl rfl rfl ?_
  refine s1 (p_move rfl) rfl rfl rfl ?_
  refine s1 (p_len Tryz.underlying23 rfl) rfl rfl rfl ?_
  refine s1 (pb_false (p_lt rfl rfl) (by omega)) rfl rfl rfl ?_
  refine s_nil ?_
  refine x_next ?_
  refine c_false rfl ?_
  refine c_skip ?_
  refine x_next ?_
  refine c_ret ?_
  exact x_done_two rfl rfl rfl ⟨rfl, rfl⟩

set_option maxRecDepth 100000 in
theorem safe_spec {F : List As} (gr k : Nat) (A : Option Addr) (N c : Nat) (l : List Int) (hl : l.length = N) (off : Nat) (hk0 : 0 < k) (hk : k ≤ 1000000) (hoff : off + k ≤ N) (hN : N ≤ 1000000000) (hb : blk gr [.slice A N c, .int .i64 0, .int .i64 (-1)] 82 ∈ F) (hr : ∀ w, Sat w F → Reads w (.slice A N c) 1 N (by8 l)) :
    Fun Tryz.prog 31 [.iface 53 (.pointer (some ⟨gr, 0, none⟩)), .int .u64 (k : Int), .int .i64 (off : Int)] (F) (fun u T => ∃ gb, u = .tuple #[.slice (some ⟨gb, 0, none⟩) k k, .nilIface] ∧ T = own (.slice (some ⟨gb, 0, none⟩) k k) 5 1 k (by8 ((l.drop off).take k)) :: F) := by
  refine fun_intro Tryz.func31 rfl Tryz.ntmps31 (Nat.le_of_ble_eq_true rfl) ?_
  refine c_seq ?_
  refine c_region ?_
  refine s1 (p_assign rfl) rfl rfl rfl ?_
  refine s1 (p_assign rfl) rfl rfl rfl ?_
  refine s_nil ?_
  refine x_next ?_
  refine c_seq ?_
  refine c_seq ?_
  refine c_region ?_
  refine s1 (p_move rfl) rfl rfl rfl ?_
  refine s1 (p_conv Tryz.underlying104 Tryz.underlying2 rfl (w64 (by omega))) rfl rfl rfl ?_
  refine s1 (pb_false (p_lt rfl rfl) (by omega)) rfl rfl rfl ?_
  refine s1 (p_move rfl) rfl rfl rfl ?_
  refine sg1 (p_move rfl) rfl rfl rfl rfl ?_
  refine sg1 (p_move rfl) rfl rfl rfl rfl ?_
  refine sg1 (p_conv Tryz.underlying104 Tryz.underlying3 rfl (w64 (by omega))) rfl rfl rfl rfl ?_
  refine sg1 (p_conv Tryz.underlying3 Tryz.underlying104 rfl (wu64 (by omega))) rfl rfl rfl rfl ?_
  refine sg1 (pb_false (p_ne rfl rfl) (by omega)) rfl rfl rfl rfl ?_
  refine s1 (p_pickF rfl rfl) rfl rfl rfl ?_
  refine s_nil ?_
  refine x_next ?_
  refine c_false rfl ?_
  refine c_skip ?_
  refine x_next ?_
  refine c_seq ?_
  refine c_seq ?_
  refine c_region ?_
  refine s1 (p_move rfl) rfl rfl rfl ?_
  refine s1 (pb_true (p_lt rfl rfl) (by omega)) rfl rfl rfl ?_
  refine s_nil ?_
  refine x_next ?_
  refine c_true rfl ?_
  refine c_seq ?_
  refine c_region ?_
  refine s1 (p_move rfl) rfl rfl rfl ?_
  refine s_step (st_makeSlice (k := .u64) (n := k) Tryz.underlying23 inf5 rfl rfl rfl ⟨by omega, by omega⟩) rfl rfl rfl ?_
  rintro _ _ ⟨gb, rfl, rfl⟩
  rw [show List.replicate k (Value.int .u8 0) = by8 (List.replicate k 0) by simp [by8]]
  refine s1 (p_assign rfl) rfl rfl rfl ?_
  refine s_nil ?_
  refine x_next ?_
  refine c_seq ?_
  refine c_region ?_
  refine s1 (p_move rfl) rfl rfl rfl ?_
  refine s1 (p_move rfl) rfl rfl rfl ?_
  refine s1 (p_move rfl) rfl rfl rfl ?_
  refine s_step (st_invoke Tryz.func75 nm75 bo75 rfl (fun w _ => mtRead gr w) rfl (readAt_spec gr gb k k k k A N c l hl off (List.replicate k 0) (Nat.le_refl _) hk0 hoff hN hb hr)) rfl rfl rfl ?_
  rintro _ _ ⟨rfl, rfl⟩
  rw [show (l.drop off).take k ++ (List.replicate k (0 : Int)).drop k = (l.drop off).take k by rw [List.drop_of_length_le (show (List.replicate k (0 : Int)).length ≤ k by simp), List.append_nil]]
  refine s1 (p_move rfl) rfl rfl rfl ?_
  refine s1 (p_extract rfl rfl) rfl rfl rfl ?_
  refine s1 (p_extract rfl rfl) rfl rfl rfl ?_
  refine s1 (p_assign rfl) rfl rfl rfl ?_
  refine s1 (p_assign rfl) rfl rfl rfl ?_
  refine s_nil ?_
  refine x_next ?_
  refine c_seq ?_
  refine c_seq ?_
  refine c_region ?_
  refine s1 (p_move rfl) rfl rfl rfl ?_
  refine s1 (p_errnil Tryz.underlying50 rfl) rfl rfl rfl ?_
  refine s_nil ?_
  refine x_next ?_
  refine c_false rfl ?_
  refine c_skip ?_
  refine x_next ?_
  refine c_seq ?_
  refine c_region ?_
  refine s1 (p_move rfl) rfl rfl rfl ?_
  refine s1 (p_assign rfl) rfl rfl rfl ?_
  refine s1 (p_assign rfl) rfl rfl rfl ?_
  refine s_nil ?_
  refine x_next ?_
  refine c_ret ?_
  refine x_ret_then ?_
  exact x_done_two rfl rfl rfl ⟨gb, rfl, rfl⟩

end V
end Go.Proofs.YtaflcjoagfnhfaaGreatDoor
