/- Walks: the two byte orders. -/
import Derived.Test.YtaflcjoagfnhfaaGreatDoorR
namespace Go.Proofs.YtaflcjoagfnhfaaGreatDoor
namespace V
open Go Go.Proofs

theorem orAdd {k : IntKind} {a b i : Nat} {q : Int} (hk : k = .u16 ∨ k = .u32 ∨ k = .i64) (ha : a < 2 ^ i) (hb : a + b * 2 ^ i < 2 ^ 16 ∨ (k ≠ .u16 ∧ a + b * 2 ^ i < 2 ^ 32)) (hq : q = ((a + b * 2 ^ i : Nat) : Int)) :
    bOr k (a : Int) ((b * 2 ^ i : Nat) : Int) = q := by
  subst hq
  have hlt : a + b * 2 ^ i < 2 ^ 32 := by omega
  have hor : a ||| b * 2 ^ i = a + b * 2 ^ i := by
    rw [Nat.or_comm, Nat.mul_comm, ← Nat.two_pow_add_eq_or_of_lt ha, Nat.add_comm]
  unfold bOr
  have hw : ∀ m : Nat, m < 2 ^ 32 → (k = .u16 → m < 2 ^ 16) → k.wrap (m : Int) = (m : Int) := by
    intro m hm h16
    rcases hk with rfl | rfl | rfl
    · exact wu16 ⟨by omega, by have := h16 rfl; omega⟩
    · exact wu32 ⟨by omega, by omega⟩
    · exact w64 ⟨by omega, by omega⟩
  have hbits : 2 ^ k.bits ≥ 2 ^ 16 ∧ (k ≠ .u16 → 2 ^ k.bits ≥ 2 ^ 32) := by rcases hk with rfl | rfl | rfl <;> decide
  have hs : a + b * 2 ^ i < 2 ^ k.bits := by
    rcases hb with hb | ⟨hb, hb2⟩
    · have := hbits.1; omega
    · have := hbits.2 hb; omega
  have h1 : (BitVec.ofInt k.bits (a : Int) ||| BitVec.ofInt k.bits ((b * 2 ^ i : Nat) : Int)).toNat = a + b * 2 ^ i := by
    rw [BitVec.toNat_or, BitVec.ofInt_natCast, BitVec.ofInt_natCast, BitVec.toNat_ofNat, BitVec.toNat_ofNat, Nat.mod_eq_of_lt (by omega), Nat.mod_eq_of_lt (by omega), hor]
  rw [h1]
  refine hw _ hlt (fun h => ?_)
  rcases hb with hb | ⟨hb, _⟩
  · exact hb
  · exact absurd h hb
theorem num2 {big : Bool} {v : Int} (h0 : 0 ≤ v) (h1 : v ≤ 65535) : ∃ a b : Nat, a ≤ 255 ∧ b ≤ 255 ∧ v = ((a + b * 2 ^ 8 : Nat) : Int) ∧ (num big 2 v).getD (if big then 1 else 0) 0 = (a : Int) ∧ (num big 2 v).getD (if big then 0 else 1) 0 = (b : Int) := by
  obtain ⟨n, rfl⟩ := Int.eq_ofNat_of_zero_le h0
  refine ⟨n % 256, n / 256, by omega, by omega, by omega, ?_, ?_⟩
  · cases big <;> simp [num, numAt, List.range, List.range.loop]
  · cases big <;> simp [num, numAt, List.range, List.range.loop] <;> omega
theorem num4 {big : Bool} {v : Int} (h0 : 0 ≤ v) (h1 : v ≤ 4294967295) : ∃ a b c d : Nat, a ≤ 255 ∧ b ≤ 255 ∧ c ≤ 255 ∧ d ≤ 255 ∧ v = ((a + b * 2 ^ 8 + c * 2 ^ 16 + d * 2 ^ 24 : Nat) : Int) ∧
    (num big 4 v).getD (if big then 3 else 0) 0 = (a : Int) ∧ (num big 4 v).getD (if big then 2 else 1) 0 = (b : Int) ∧ (num big 4 v).getD (if big then 1 else 2) 0 = (c : Int) ∧ (num big 4 v).getD (if big then 0 else 3) 0 = (d : Int) := by
  obtain ⟨n, rfl⟩ := Int.eq_ofNat_of_zero_le h0
  refine ⟨n % 256, n / 256 % 256, n / 65536 % 256, n / 16777216, by omega, by omega, by omega, by omega, by omega, ?_, ?_, ?_, ?_⟩
  · cases big <;> simp [num, numAt, List.range, List.range.loop]
  · cases big <;> simp [num, numAt, List.range, List.range.loop]
  · cases big <;> simp [num, numAt, List.range, List.range.loop]
  · cases big <;> simp [num, numAt, List.range, List.range.loop] <;> omega
theorem getP {l : List Int} {k : Nat} {a : Nat} (h : l.getD k 0 = (a : Int)) (hk : k < l.length) : (by8 l)[k]? = some (.int .u8 (a : Int)) := by rw [by8_get hk, h]
theorem num_len2 {big : Bool} {v : Int} : (num big 2 v).length = 2 := num_length ..
theorem num_len4 {big : Bool} {v : Int} : (num big 4 v).length = 4 := num_length ..
theorem shlU {k : IntKind} {y i : Nat} {q : Int} {s : Int} (hk : k = .u16 ∨ k = .u32) (hs : min s.toNat k.bits = i) (hb : y * 2 ^ i < 2 ^ 16 ∨ (k ≠ .u16 ∧ y * 2 ^ i < 2 ^ 32)) (hq : q = ((y * 2 ^ i : Nat) : Int)) : k.wrap ((y : Int) * 2 ^ min s.toNat k.bits) = q := by
  rw [hs, hq]
  have e : (y : Int) * 2 ^ i = ((y * 2 ^ i : Nat) : Int) := by rw [Int.natCast_mul, Int.natCast_pow]; rfl
  rw [e]
  rcases hk with rfl | rfl
  · refine wu16 ⟨by omega, ?_⟩
    rcases hb with hb | ⟨hb, _⟩
    · omega
    · exact absurd rfl hb
  · exact wu32 ⟨by omega, by omega⟩

set_option maxRecDepth 100000 in
theorem u16L_spec {F : List As} (A : Option Addr) (c : Nat) (v : Int) (h0 : 0 ≤ v) (h1 : v ≤ 65535) (hr : ∀ w, Sat w F → Reads w (.slice A 2 c) 1 2 (by8 (num false 2 v))) :
    Fun Tryz.prog 85 [.agg #[], .slice A 2 c] (F) (fun u T => u = .int .u16 v ∧ T = F) := by
  refine fun_intro Tryz.func85 rfl Tryz.ntmps85 (Nat.le_of_ble_eq_true rfl) ?_
  obtain ⟨a, b, ha, hb, hv, ha_, hb_⟩ := num2 (big := false) h0 h1
  simp only [if_false, Bool.false_eq_true] at ha_ hb_
  refine c_seq ?_
  refine c_region ?_
  refine s_step (st_box rfl) rfl rfl rfl ?_
  rintro _ _ ⟨gt, rfl, rfl⟩
  refine s_sat drop0 ?_
  refine s1 (p_assign rfl) rfl rfl rfl ?_
  refine s_nil ?_
  refine x_next ?_
  refine c_seq ?_
  refine c_region ?_
  refine s1 (p_move rfl) rfl rfl rfl ?_
  refine s1 (p_index (kk := 1) Tryz.underlying23 sz5 rfl rfl hr (by omega) (by omega) (by omega)) rfl rfl rfl ?_
  refine s1 (p_loadE Tryz.underlying5 rfl rfl hr (by8_get (by rw [num_length]; omega))) rfl rfl rfl ?_
  refine s_nil ?_
  refine x_next ?_
  refine c_seq ?_
  refine c_draw 11 (F) mixed ?_
  refine d_take 0 rfl (p_move rfl) rfl rfl rfl (by kernel_rfl) (fun _ h => h) ?_
  refine d_take 1 rfl (p_index (kk := 0) Tryz.underlying23 sz5 rfl rfl hr (by omega) (by omega) (by omega)) rfl rfl rfl (by kernel_rfl) (fun _ h => h) ?_
  refine d_take 2 rfl (p_loadE Tryz.underlying5 rfl rfl hr (getP ha_ (by rw [num_length]; omega))) rfl rfl rfl (by kernel_rfl) (fun _ h => h) ?_
  refine d_take 3 rfl (p_conv Tryz.underlying5 Tryz.underlying100 rfl (wu16 (by omega))) rfl rfl rfl (by kernel_rfl) (fun _ h => h) ?_
  refine d_take 4 rfl (p_move rfl) rfl rfl rfl (by kernel_rfl) (fun _ h => h) ?_
  refine d_take 5 rfl (p_index (kk := 1) Tryz.underlying23 sz5 rfl rfl hr (by omega) (by omega) (by omega)) rfl rfl rfl (by kernel_rfl) (fun _ h => h) ?_
  refine d_take 6 rfl (p_loadE Tryz.underlying5 rfl rfl hr (getP hb_ (by rw [num_length]; omega))) rfl rfl rfl (by kernel_rfl) (fun _ h => h) ?_
  refine d_take 7 rfl (p_conv Tryz.underlying5 Tryz.underlying100 rfl (wu16 (by omega))) rfl rfl rfl (by kernel_rfl) (fun _ h => h) ?_
  refine d_take 8 rfl (p_shl rfl rfl (by omega) (shlU (i := 8) (by simp) rfl (by left; omega) rfl)) rfl rfl rfl (by kernel_rfl) (fun _ h => h) ?_
  refine d_take 9 rfl (p_or rfl rfl (orAdd (k := .u16) (a := a) (b := b) (i := 8) (by simp) (by omega) (by left; omega) rfl)) rfl rfl rfl (by kernel_rfl) (fun _ h => h) ?_
  refine d_take 10 rfl (p_assign rfl) rfl rfl rfl (by kernel_rfl) (fun _ h => h) ?_
  refine d_done (by kernel_rfl) ?_
  refine x_next ?_
  refine c_ret ?_
  exact x_done_one rfl rfl ⟨by rw [hv], rfl⟩

set_option maxRecDepth 100000 in
theorem u32L_spec {F : List As} (A : Option Addr) (c : Nat) (v : Int) (h0 : 0 ≤ v) (h1 : v ≤ 4294967295) (hr : ∀ w, Sat w F → Reads w (.slice A 4 c) 1 4 (by8 (num false 4 v))) :
    Fun Tryz.prog 86 [.agg #[], .slice A 4 c] (F) (fun u T => u = .int .u32 v ∧ T = F) := by
  refine fun_intro Tryz.func86 rfl Tryz.ntmps86 (Nat.le_of_ble_eq_true rfl) ?_
  obtain ⟨a, b, c, d, ha, hb, hc, hd, hv, ha_, hb_, hc_, hd_⟩ := num4 (big := false) h0 h1
  simp only [if_false, Bool.false_eq_true] at ha_ hb_ hc_ hd_
  refine c_seq ?_
  refine c_region ?_
  refine s_step (st_box rfl) rfl rfl rfl ?_
  rintro _ _ ⟨gt, rfl, rfl⟩
  refine s_sat drop0 ?_
  refine s1 (p_assign rfl) rfl rfl rfl ?_
  refine s_nil ?_
  refine x_next ?_
  refine c_seq ?_
  refine c_region ?_
  refine s1 (p_move rfl) rfl rfl rfl ?_
  refine s1 (p_index (kk := 3) Tryz.underlying23 sz5 rfl rfl hr (by omega) (by omega) (by omega)) rfl rfl rfl ?_
  refine s1 (p_loadE Tryz.underlying5 rfl rfl hr (by8_get (by rw [num_length]; omega))) rfl rfl rfl ?_
  refine s_nil ?_
  refine x_next ?_
  refine c_seq ?_
  refine c_draw 23 (F) mixed ?_
  refine d_take 0 rfl (p_move rfl) rfl rfl rfl (by kernel_rfl) (fun _ h => h) ?_
  refine d_take 1 rfl (p_index (kk := 0) Tryz.underlying23 sz5 rfl rfl hr (by omega) (by omega) (by omega)) rfl rfl rfl (by kernel_rfl) (fun _ h => h) ?_
  refine d_take 2 rfl (p_loadE Tryz.underlying5 rfl rfl hr (getP ha_ (by rw [num_length]; omega))) rfl rfl rfl (by kernel_rfl) (fun _ h => h) ?_
  refine d_take 3 rfl (p_conv Tryz.underlying5 Tryz.underlying22 rfl (wu32 (by omega))) rfl rfl rfl (by kernel_rfl) (fun _ h => h) ?_
  refine d_take 4 rfl (p_move rfl) rfl rfl rfl (by kernel_rfl) (fun _ h => h) ?_
  refine d_take 5 rfl (p_index (kk := 1) Tryz.underlying23 sz5 rfl rfl hr (by omega) (by omega) (by omega)) rfl rfl rfl (by kernel_rfl) (fun _ h => h) ?_
  refine d_take 6 rfl (p_loadE Tryz.underlying5 rfl rfl hr (getP hb_ (by rw [num_length]; omega))) rfl rfl rfl (by kernel_rfl) (fun _ h => h) ?_
  refine d_take 7 rfl (p_conv Tryz.underlying5 Tryz.underlying22 rfl (wu32 (by omega))) rfl rfl rfl (by kernel_rfl) (fun _ h => h) ?_
  refine d_take 8 rfl (p_shl rfl rfl (by omega) (shlU (i := 8) (by simp) rfl (by right; exact ⟨by simp, by omega⟩) rfl)) rfl rfl rfl (by kernel_rfl) (fun _ h => h) ?_
  refine d_take 9 rfl (p_or rfl rfl (orAdd (k := .u32) (a := a) (b := b) (i := 8) (by simp) (by omega) (by right; exact ⟨by simp, by omega⟩) rfl)) rfl rfl rfl (by kernel_rfl) (fun _ h => h) ?_
  refine d_take 10 rfl (p_move rfl) rfl rfl rfl (by kernel_rfl) (fun _ h => h) ?_
  refine d_take 11 rfl (p_index (kk := 2) Tryz.underlying23 sz5 rfl rfl hr (by omega) (by omega) (by omega)) rfl rfl rfl (by kernel_rfl) (fun _ h => h) ?_
  refine d_take 12 rfl (p_loadE Tryz.underlying5 rfl rfl hr (getP hc_ (by rw [num_length]; omega))) rfl rfl rfl (by kernel_rfl) (fun _ h => h) ?_
  refine d_take 13 rfl (p_conv Tryz.underlying5 Tryz.underlying22 rfl (wu32 (by omega))) rfl rfl rfl (by kernel_rfl) (fun _ h => h) ?_
  refine d_take 14 rfl (p_shl rfl rfl (by omega) (shlU (i := 16) (by simp) rfl (by right; exact ⟨by simp, by omega⟩) rfl)) rfl rfl rfl (by kernel_rfl) (fun _ h => h) ?_
  refine d_take 15 rfl (p_or rfl rfl (orAdd (k := .u32) (a := a + b * 2 ^ 8) (b := c) (i := 16) (by simp) (by omega) (by right; exact ⟨by simp, by omega⟩) rfl)) rfl rfl rfl (by kernel_rfl) (fun _ h => h) ?_
  refine d_take 16 rfl (p_move rfl) rfl rfl rfl (by kernel_rfl) (fun _ h => h) ?_
  refine d_take 17 rfl (p_index (kk := 3) Tryz.underlying23 sz5 rfl rfl hr (by omega) (by omega) (by omega)) rfl rfl rfl (by kernel_rfl) (fun _ h => h) ?_
  refine d_take 18 rfl (p_loadE Tryz.underlying5 rfl rfl hr (getP hd_ (by rw [num_length]; omega))) rfl rfl rfl (by kernel_rfl) (fun _ h => h) ?_
  refine d_take 19 rfl (p_conv Tryz.underlying5 Tryz.underlying22 rfl (wu32 (by omega))) rfl rfl rfl (by kernel_rfl) (fun _ h => h) ?_
  refine d_take 20 rfl (p_shl rfl rfl (by omega) (shlU (i := 24) (by simp) rfl (by right; exact ⟨by simp, by omega⟩) rfl)) rfl rfl rfl (by kernel_rfl) (fun _ h => h) ?_
  refine d_take 21 rfl (p_or rfl rfl (orAdd (k := .u32) (a := a + b * 2 ^ 8 + c * 2 ^ 16) (b := d) (i := 24) (by simp) (by omega) (by right; exact ⟨by simp, by omega⟩) rfl)) rfl rfl rfl (by kernel_rfl) (fun _ h => h) ?_
  refine d_take 22 rfl (p_assign rfl) rfl rfl rfl (by kernel_rfl) (fun _ h => h) ?_
  refine d_done (by kernel_rfl) ?_
  refine x_next ?_
  refine c_ret ?_
  exact x_done_one rfl rfl ⟨by rw [hv], rfl⟩

set_option maxRecDepth 100000 in
theorem u16B_spec {F : List As} (A : Option Addr) (c : Nat) (v : Int) (h0 : 0 ≤ v) (h1 : v ≤ 65535) (hr : ∀ w, Sat w F → Reads w (.slice A 2 c) 1 2 (by8 (num true 2 v))) :
    Fun Tryz.prog 93 [.agg #[], .slice A 2 c] (F) (fun u T => u = .int .u16 v ∧ T = F) := by
  refine fun_intro Tryz.func93 rfl Tryz.ntmps93 (Nat.le_of_ble_eq_true rfl) ?_
  obtain ⟨a, b, ha, hb, hv, ha_, hb_⟩ := num2 (big := true) h0 h1
  simp only [if_true] at ha_ hb_
  refine c_seq ?_
  refine c_region ?_
  refine s_step (st_box rfl) rfl rfl rfl ?_
  rintro _ _ ⟨gt, rfl, rfl⟩
  refine s_sat drop0 ?_
  refine s1 (p_assign rfl) rfl rfl rfl ?_
  refine s_nil ?_
  refine x_next ?_
  refine c_seq ?_
  refine c_region ?_
  refine s1 (p_move rfl) rfl rfl rfl ?_
  refine s1 (p_index (kk := 1) Tryz.underlying23 sz5 rfl rfl hr (by omega) (by omega) (by omega)) rfl rfl rfl ?_
  refine s1 (p_loadE Tryz.underlying5 rfl rfl hr (by8_get (by rw [num_length]; omega))) rfl rfl rfl ?_
  refine s_nil ?_
  refine x_next ?_
  refine c_seq ?_
  refine c_draw 11 (F) mixed ?_
  refine d_take 0 rfl (p_move rfl) rfl rfl rfl (by kernel_rfl) (fun _ h => h) ?_
  refine d_take 1 rfl (p_index (kk := 1) Tryz.underlying23 sz5 rfl rfl hr (by omega) (by omega) (by omega)) rfl rfl rfl (by kernel_rfl) (fun _ h => h) ?_
  refine d_take 2 rfl (p_loadE Tryz.underlying5 rfl rfl hr (getP ha_ (by rw [num_length]; omega))) rfl rfl rfl (by kernel_rfl) (fun _ h => h) ?_
  refine d_take 3 rfl (p_conv Tryz.underlying5 Tryz.underlying100 rfl (wu16 (by omega))) rfl rfl rfl (by kernel_rfl) (fun _ h => h) ?_
  refine d_take 4 rfl (p_move rfl) rfl rfl rfl (by kernel_rfl) (fun _ h => h) ?_
  refine d_take 5 rfl (p_index (kk := 0) Tryz.underlying23 sz5 rfl rfl hr (by omega) (by omega) (by omega)) rfl rfl rfl (by kernel_rfl) (fun _ h => h) ?_
  refine d_take 6 rfl (p_loadE Tryz.underlying5 rfl rfl hr (getP hb_ (by rw [num_length]; omega))) rfl rfl rfl (by kernel_rfl) (fun _ h => h) ?_
  refine d_take 7 rfl (p_conv Tryz.underlying5 Tryz.underlying100 rfl (wu16 (by omega))) rfl rfl rfl (by kernel_rfl) (fun _ h => h) ?_
  refine d_take 8 rfl (p_shl rfl rfl (by omega) (shlU (i := 8) (by simp) rfl (by left; omega) rfl)) rfl rfl rfl (by kernel_rfl) (fun _ h => h) ?_
  refine d_take 9 rfl (p_or rfl rfl (orAdd (k := .u16) (a := a) (b := b) (i := 8) (by simp) (by omega) (by left; omega) rfl)) rfl rfl rfl (by kernel_rfl) (fun _ h => h) ?_
  refine d_take 10 rfl (p_assign rfl) rfl rfl rfl (by kernel_rfl) (fun _ h => h) ?_
  refine d_done (by kernel_rfl) ?_
  refine x_next ?_
  refine c_ret ?_
  exact x_done_one rfl rfl ⟨by rw [hv], rfl⟩

set_option maxRecDepth 100000 in
theorem u32B_spec {F : List As} (A : Option Addr) (c : Nat) (v : Int) (h0 : 0 ≤ v) (h1 : v ≤ 4294967295) (hr : ∀ w, Sat w F → Reads w (.slice A 4 c) 1 4 (by8 (num true 4 v))) :
    Fun Tryz.prog 94 [.agg #[], .slice A 4 c] (F) (fun u T => u = .int .u32 v ∧ T = F) := by
  refine fun_intro Tryz.func94 rfl Tryz.ntmps94 (Nat.le_of_ble_eq_true rfl) ?_
  obtain ⟨a, b, c, d, ha, hb, hc, hd, hv, ha_, hb_, hc_, hd_⟩ := num4 (big := true) h0 h1
  simp only [if_true] at ha_ hb_ hc_ hd_
  refine c_seq ?_
  refine c_region ?_
  refine s_step (st_box rfl) rfl rfl rfl ?_
  rintro _ _ ⟨gt, rfl, rfl⟩
  refine s_sat drop0 ?_
  refine s1 (p_assign rfl) rfl rfl rfl ?_
  refine s_nil ?_
  refine x_next ?_
  refine c_seq ?_
  refine c_region ?_
  refine s1 (p_move rfl) rfl rfl rfl ?_
  refine s1 (p_index (kk := 3) Tryz.underlying23 sz5 rfl rfl hr (by omega) (by omega) (by omega)) rfl rfl rfl ?_
  refine s1 (p_loadE Tryz.underlying5 rfl rfl hr (by8_get (by rw [num_length]; omega))) rfl rfl rfl ?_
  refine s_nil ?_
  refine x_next ?_
  refine c_seq ?_
  refine c_draw 23 (F) mixed ?_
  refine d_take 0 rfl (p_move rfl) rfl rfl rfl (by kernel_rfl) (fun _ h => h) ?_
  refine d_take 1 rfl (p_index (kk := 3) Tryz.underlying23 sz5 rfl rfl hr (by omega) (by omega) (by omega)) rfl rfl rfl (by kernel_rfl) (fun _ h => h) ?_
  refine d_take 2 rfl (p_loadE Tryz.underlying5 rfl rfl hr (getP ha_ (by rw [num_length]; omega))) rfl rfl rfl (by kernel_rfl) (fun _ h => h) ?_
  refine d_take 3 rfl (p_conv Tryz.underlying5 Tryz.underlying22 rfl (wu32 (by omega))) rfl rfl rfl (by kernel_rfl) (fun _ h => h) ?_
  refine d_take 4 rfl (p_move rfl) rfl rfl rfl (by kernel_rfl) (fun _ h => h) ?_
  refine d_take 5 rfl (p_index (kk := 2) Tryz.underlying23 sz5 rfl rfl hr (by omega) (by omega) (by omega)) rfl rfl rfl (by kernel_rfl) (fun _ h => h) ?_
  refine d_take 6 rfl (p_loadE Tryz.underlying5 rfl rfl hr (getP hb_ (by rw [num_length]; omega))) rfl rfl rfl (by kernel_rfl) (fun _ h => h) ?_
  refine d_take 7 rfl (p_conv Tryz.underlying5 Tryz.underlying22 rfl (wu32 (by omega))) rfl rfl rfl (by kernel_rfl) (fun _ h => h) ?_
  refine d_take 8 rfl (p_shl rfl rfl (by omega) (shlU (i := 8) (by simp) rfl (by right; exact ⟨by simp, by omega⟩) rfl)) rfl rfl rfl (by kernel_rfl) (fun _ h => h) ?_
  refine d_take 9 rfl (p_or rfl rfl (orAdd (k := .u32) (a := a) (b := b) (i := 8) (by simp) (by omega) (by right; exact ⟨by simp, by omega⟩) rfl)) rfl rfl rfl (by kernel_rfl) (fun _ h => h) ?_
  refine d_take 10 rfl (p_move rfl) rfl rfl rfl (by kernel_rfl) (fun _ h => h) ?_
  refine d_take 11 rfl (p_index (kk := 1) Tryz.underlying23 sz5 rfl rfl hr (by omega) (by omega) (by omega)) rfl rfl rfl (by kernel_rfl) (fun _ h => h) ?_
  refine d_take 12 rfl (p_loadE Tryz.underlying5 rfl rfl hr (getP hc_ (by rw [num_length]; omega))) rfl rfl rfl (by kernel_rfl) (fun _ h => h) ?_
  refine d_take 13 rfl (p_conv Tryz.underlying5 Tryz.underlying22 rfl (wu32 (by omega))) rfl rfl rfl (by kernel_rfl) (fun _ h => h) ?_
  refine d_take 14 rfl (p_shl rfl rfl (by omega) (shlU (i := 16) (by simp) rfl (by right; exact ⟨by simp, by omega⟩) rfl)) rfl rfl rfl (by kernel_rfl) (fun _ h => h) ?_
  refine d_take 15 rfl (p_or rfl rfl (orAdd (k := .u32) (a := a + b * 2 ^ 8) (b := c) (i := 16) (by simp) (by omega) (by right; exact ⟨by simp, by omega⟩) rfl)) rfl rfl rfl (by kernel_rfl) (fun _ h => h) ?_
  refine d_take 16 rfl (p_move rfl) rfl rfl rfl (by kernel_rfl) (fun _ h => h) ?_
  refine d_take 17 rfl (p_index (kk := 0) Tryz.underlying23 sz5 rfl rfl hr (by omega) (by omega) (by omega)) rfl rfl rfl (by kernel_rfl) (fun _ h => h) ?_
  refine d_take 18 rfl (p_loadE Tryz.underlying5 rfl rfl hr (getP hd_ (by rw [num_length]; omega))) rfl rfl rfl (by kernel_rfl) (fun _ h => h) ?_
  refine d_take 19 rfl (p_conv Tryz.underlying5 Tryz.underlying22 rfl (wu32 (by omega))) rfl rfl rfl (by kernel_rfl) (fun _ h => h) ?_
  refine d_take 20 rfl (p_shl rfl rfl (by omega) (shlU (i := 24) (by simp) rfl (by right; exact ⟨by simp, by omega⟩) rfl)) rfl rfl rfl (by kernel_rfl) (fun _ h => h) ?_
  refine d_take 21 rfl (p_or rfl rfl (orAdd (k := .u32) (a := a + b * 2 ^ 8 + c * 2 ^ 16) (b := d) (i := 24) (by simp) (by omega) (by right; exact ⟨by simp, by omega⟩) rfl)) rfl rfl rfl (by kernel_rfl) (fun _ h => h) ?_
  refine d_take 22 rfl (p_assign rfl) rfl rfl rfl (by kernel_rfl) (fun _ h => h) ?_
  refine d_done (by kernel_rfl) ?_
  refine x_next ?_
  refine c_ret ?_
  exact x_done_one rfl rfl ⟨by rw [hv], rfl⟩

end V
end Go.Proofs.YtaflcjoagfnhfaaGreatDoor
