/- Walks: the reference's LZW packer, and its choice of a packer. -/
import Derived.Test.YtaflcjoagfnhfaaGreatDoorK
namespace Go.Proofs.YtaflcjoagfnhfaaGreatDoor
namespace V
open Go Go.Proofs

theorem Sat.t1 {w : World} {a : As} {T : List As} (h : Sat w (a :: T)) : Sat w [a] := ⟨h.1, by simp, trivial⟩
theorem Sat.t2 {w : World} {a b : As} {T : List As} (h : Sat w (a :: b :: T)) : Sat w [a, b] := h.perm_cons (fun B hB => by simp at hB ⊢; rcases hB with hB <;> simp_all) (Sat.t1 h.tail)
theorem Sat.t3 {w : World} {a b c : As} {T : List As} (h : Sat w (a :: b :: c :: T)) : Sat w [a, b, c] := h.perm_cons (fun B hB => by simp at hB ⊢; rcases hB with hB | hB <;> simp_all) (Sat.t2 h.tail)
theorem Sat.t4 {w : World} {a b c d : As} {T : List As} (h : Sat w (a :: b :: c :: d :: T)) : Sat w [a, b, c, d] := h.perm_cons (fun B hB => by simp at hB ⊢; rcases hB with hB | hB | hB <;> simp_all) (Sat.t3 h.tail)
theorem Sat.t5 {w : World} {a b c d e : As} {T : List As} (h : Sat w (a :: b :: c :: d :: e :: T)) : Sat w [a, b, c, d, e] := h.perm_cons (fun B hB => by simp at hB ⊢; rcases hB with hB | hB | hB | hB <;> simp_all) (Sat.t4 h.tail)
theorem Sat.t6 {w : World} {a b c d e i : As} {T : List As} (h : Sat w (a :: b :: c :: d :: e :: i :: T)) : Sat w [a, b, c, d, e, i] := h.perm_cons (fun B hB => by simp at hB ⊢; rcases hB with hB | hB | hB | hB | hB <;> simp_all) (Sat.t5 h.tail)
theorem Sat.t7 {w : World} {a b c d e i j : As} {T : List As} (h : Sat w (a :: b :: c :: d :: e :: i :: j :: T)) : Sat w [a, b, c, d, e, i, j] := h.perm_cons (fun B hB => by simp at hB ⊢; rcases hB with hB | hB | hB | hB | hB | hB <;> simp_all) (Sat.t6 h.tail)
theorem Sat.t8 {w : World} {a b c d e i j k : As} {T : List As} (h : Sat w (a :: b :: c :: d :: e :: i :: j :: k :: T)) : Sat w [a, b, c, d, e, i, j, k] := h.perm_cons (fun B hB => by simp at hB ⊢; rcases hB with hB | hB | hB | hB | hB | hB | hB <;> simp_all) (Sat.t7 h.tail)
theorem Sat.t9 {w : World} {a b c d e i j k l : As} {T : List As} (h : Sat w (a :: b :: c :: d :: e :: i :: j :: k :: l :: T)) : Sat w [a, b, c, d, e, i, j, k, l] := h.perm_cons (fun B hB => by simp at hB ⊢; rcases hB with hB | hB | hB | hB | hB | hB | hB | hB <;> simp_all) (Sat.t8 h.tail)

set_option maxRecDepth 100000 in
theorem clear_spec {F T0 : List As} (g gw gk gc gl n : Nat) (known count : Int) (AL : Option Addr) (nl cL : Nat) (hn : n ≤ 900000000) (hT : Wr 124 g n F T0) :
    Fun Tryz.prog 38 [.pointer (some ⟨gw, 0, none⟩), .pointer (some ⟨gk, 0, none⟩), .pointer (some ⟨gc, 0, none⟩), .pointer (some ⟨gl, 0, none⟩)] (blk gw [.pointer (some ⟨g, 0, none⟩)] 122 :: blk gk [.int .i64 known] 3 :: blk gc [.int .i64 count] 3 :: blk gl [.slice AL nl cL] 60 :: T0) (fun u T => u = .tuple #[] ∧ ∃ A c, ∃ k : Nat, ∃ T1, k ≤ 12 ∧ Wr 124 g (n + k) F T1 ∧ T = blk gw [.pointer (some ⟨g, 0, none⟩)] 122 :: blk gk [.int .i64 258] 3 :: blk gc [.int .i64 0] 3 :: blk gl [.slice A 0 c] 60 :: own (.slice A 0 c) 23 1 0 [] :: T1) := by
  refine fun_intro Tryz.func38 rfl Tryz.ntmps38 (Nat.le_of_ble_eq_true rfl) ?_
  refine c_seq ?_
  refine c_draw 4 ([blk gw [.pointer (some ⟨g, 0, none⟩)] 122, blk gk [.int .i64 known] 3, blk gc [.int .i64 count] 3, blk gl [.slice AL nl cL] 60]) mixed ?_
  refine d_take 0 rfl (p_load m0 Tryz.underlying122 rfl rfl rfl) rfl rfl rfl (by kernel_rfl) (fun _ h => Sat.t4 (Sat.perm ((((f3).trans f3).trans f3).trans f3) h)) ?_
  refine d_take 1 rfl (p_load m1 Tryz.underlying3 rfl rfl rfl) rfl rfl rfl (by kernel_rfl) (fun _ h => Sat.t4 (Sat.perm ((((f3).trans f3).trans f3).trans f3) h)) ?_
  refine d_step 2 rfl (by kernel_rfl) (st_call Tryz.func40 nm40 bo40 rfl (lzwWidth_spec known)) rfl rfl rfl ?_
  rintro _ _ ⟨rfl, nn, rfl, hn1, hn2⟩
  refine ⟨fun _ => (fun _ h => Sat.t4 (Sat.perm ((((f3).trans f3).trans f3).trans f3) h)), ?_⟩
  obtain ⟨T1, hT1, hp1⟩ := hT.pushes [blk gw [.pointer (some ⟨g, 0, none⟩)] 122, blk gk [.int .i64 known] 3, blk gc [.int .i64 count] 3, blk gl [.slice AL nl cL] 60]
  refine h_perm hp1 ?_
  refine d_step 3 rfl (by kernel_rfl) (st_call Tryz.func39 nm39 bo39 rfl (pword_spec g n _ nn (by omega) (by omega) (by omega) hT1)) rfl rfl rfl ?_
  rintro _ T2 ⟨rfl, hT2⟩
  refine ⟨fun _ => (fun _ h => Sat.t4 (hT2.frame _ h)), ?_⟩
  obtain ⟨T3, hT3, hp3⟩ := hT2.pops [blk gw [.pointer (some ⟨g, 0, none⟩)] 122, blk gk [.int .i64 known] 3, blk gc [.int .i64 count] 3, blk gl [.slice AL nl cL] 60]
  refine h_perm hp3 ?_
  refine d_done (by kernel_rfl) ?_
  refine x_next ?_
  refine c_seq ?_
  refine c_region ?_
  refine s_perm f1 ?_
  refine s_step0 (st_store rfl rfl rfl sz3 (by simp)) rfl rfl ?_
  rintro _ _ rfl
  refine s_perm f2 ?_
  refine s_step0 (st_store rfl rfl rfl sz3 (by simp)) rfl rfl ?_
  rintro _ _ rfl
  refine s_nil ?_
  refine x_next ?_
  refine c_region ?_
  refine s_step (st_buildSlice (e := 23) (size := 1) rfl (fun w => bs60_0 w) rfl (by omega)) rfl rfl rfl ?_
  rintro _ _ ⟨g1, rfl, rfl⟩
  refine s_perm f4 ?_
  refine s_step0 (st_store rfl rfl rfl sz60 (by simp)) rfl rfl ?_
  rintro _ _ rfl
  refine s_nil ?_
  refine x_perm (T := blk gw [.pointer (some ⟨g, 0, none⟩)] 122 :: blk gk [.int .i64 258] 3 :: blk gc [.int .i64 0] 3 :: blk gl [.slice (some ⟨g1, 0, none⟩) 0 0] 60 :: own (.slice (some ⟨g1, 0, none⟩) 0 0) 23 1 0 [] :: T3) (((((f1).trans f1).trans f2).trans f3).trans f4) ?_
  exact x_done_none rfl ⟨rfl, some ⟨g1, 0, none⟩, 0, nn.toNat, T3, by omega, hT3, rfl⟩

set_option maxRecDepth 100000 in
theorem Coded_spec {F : List As} (A : Option Addr) (N c : Nat) (l : List Int) (hl : l.length = N) (hN : N ≤ 1000000) (hr : ∀ w, Sat w F → Reads w (.slice A N c) 1 N (by8 l)) :
    Fun Tryz.prog 27 [.slice A N c, .int .i64 37] (F) (fun u T => ∃ A2 c2 l2, ∃ k : Nat, l2.length = k ∧ 2 ≤ k ∧ k ≤ 3 * N + 6 ∧ u = .slice A2 k c2 ∧ T = own (.slice A2 k c2) 5 1 k (by8 l2) :: F) := by
  refine fun_intro Tryz.func27 rfl Tryz.ntmps27 (Nat.le_of_ble_eq_true rfl) ?_
  refine c_seq ?_
  refine c_region ?_
  refine s1 (p_assign rfl) rfl rfl rfl ?_
  refine s_nil ?_
  refine x_next ?_
  refine c_seq ?_
  refine c_region ?_
  refine s1 (p_build rfl (fun w => bd124 w)) rfl rfl rfl ?_
  refine s_step (st_box rfl) rfl rfl rfl ?_
  rintro _ _ ⟨g, rfl, rfl⟩
  obtain ⟨T0, hT0, hp0⟩ := Wr.new 124 g F
  refine s_sat hp0 ?_
  refine s_step (st_alloc ze122) rfl rfl rfl ?_
  rintro _ _ ⟨gw, rfl, rfl⟩
  refine s_step0 (st_store rfl rfl rfl sz122 (by simp [Value.cells])) rfl rfl ?_
  rintro _ _ rfl
  refine s_nil ?_
  refine x_next ?_
  refine c_seq ?_
  refine c_region ?_
  refine s_step (st_alloc ze3) rfl rfl rfl ?_
  rintro _ _ ⟨gk, rfl, rfl⟩
  refine s_step0 (st_store rfl rfl rfl sz3 (by simp [Value.cells])) rfl rfl ?_
  rintro _ _ rfl
  refine s_nil ?_
  refine x_next ?_
  refine c_seq ?_
  refine c_region ?_
  refine s_step (st_buildSlice (e := 23) (size := 1) rfl (fun w => bs60_0 w) rfl (by omega)) rfl rfl rfl ?_
  rintro _ _ ⟨g1, rfl, rfl⟩
  refine s_step (st_alloc ze60) rfl rfl rfl ?_
  rintro _ _ ⟨gl, rfl, rfl⟩
  refine s_step0 (st_store rfl rfl rfl sz60 (by simp [Value.cells])) rfl rfl ?_
  rintro _ _ rfl
  refine s_perm f1 ?_
  refine s_sat drop0 ?_
  refine s_nil ?_
  refine x_next ?_
  refine c_seq ?_
  refine c_region ?_
  refine s_step (st_alloc ze3) rfl rfl rfl ?_
  rintro _ _ ⟨gc, rfl, rfl⟩
  refine s_step0 (st_store rfl rfl rfl sz3 (by simp [Value.cells])) rfl rfl ?_
  rintro _ _ rfl
  refine s_perm f1 ?_
  refine s_perm f1 ?_
  refine s_perm f2 ?_
  refine s_perm f3 ?_
  refine s_perm (T := blk gw [.pointer (some ⟨g, 0, none⟩)] 122 :: blk gk [.int .i64 258] 3 :: blk gc [.int .i64 0] 3 :: blk gl [.slice (some ⟨g1, 0, none⟩) 0 0] 60 :: T0) f0 ?_
  refine s_nil ?_
  refine x_next ?_
  refine c_seq ?_
  refine c_region ?_
  refine s1 (p_makeFunc rfl) rfl rfl rfl ?_
  refine s1 (p_assign rfl) rfl rfl rfl ?_
  refine s_nil ?_
  refine x_next ?_
  refine c_seq ?_
  refine c_region ?_
  refine s1 (p_move rfl) rfl rfl rfl ?_
  refine s_step (st_callV (vs := []) (caps := [.pointer (some ⟨gw, 0, none⟩), .pointer (some ⟨gk, 0, none⟩), .pointer (some ⟨gc, 0, none⟩), .pointer (some ⟨gl, 0, none⟩)]) Tryz.func38 nm38 bo38 rfl rfl rfl (clear_spec g gw gk gc gl 0 258 0 _ 0 0 (by omega) hT0)) rfl rfl rfl ?_
  rintro _ _ ⟨rfl, AL, cL, k0, T1, hk0, hT1, rfl⟩
  refine s_perm f4 ?_
  refine s_sat lst_new ?_
  refine s_nil ?_
  refine x_next ?_
  refine c_seq ?_
  refine c_region ?_
  refine s_step (st_buildSlice (e := 5) (size := 1) rfl (fun w => bs23_0 w) rfl (by omega)) rfl rfl rfl ?_
  rintro _ _ ⟨g2, rfl, rfl⟩
  refine s_sat drop0 ?_
  refine s1 (p_assign rfl) rfl rfl rfl ?_
  refine s_nil ?_
  refine x_next ?_
  refine c_seq ?_
  refine c_block ?_
  refine c_loop (α := (Option Addr) × (Nat) × (Nat) × (List Int) × (Int) × (Int) × (Option Addr) × (Nat) × (Nat) × (List (Option Addr × Nat × List Int)) × (Nat) × (List As)) (fun gg => (∀ w, Sat w F → Reads w (.slice gg.1 gg.2.1 gg.2.2.1) 1 gg.2.1 (by8 gg.2.2.2.1)) ∧ gg.2.2.2.1.length = gg.2.1 ∧ gg.2.1 ≤ N ∧ 0 ≤ gg.2.2.2.2.1 ∧ gg.2.2.2.2.1 ≤ 258 + (N - gg.2.1) ∧ 0 ≤ gg.2.2.2.2.2.1 ∧ gg.2.2.2.2.2.1 ≤ N - gg.2.1 ∧ gg.2.2.2.2.2.2.2.2.2.1.length = gg.2.2.2.2.2.2.2.1 ∧ gg.2.2.2.2.2.2.2.1 ≤ N - gg.2.1 ∧ gg.2.2.2.2.2.2.2.2.2.2.1 + 24 * gg.2.1 ≤ 24 * N + 12 ∧ Wr 124 g gg.2.2.2.2.2.2.2.2.2.2.1 F gg.2.2.2.2.2.2.2.2.2.2.2) (fun gg => gg.2.1) (fun gg => [(0, .slice gg.1 gg.2.1 gg.2.2.1), (1, .int .i64 37), (5, .pointer (some ⟨gw, 0, none⟩)), (6, .pointer (some ⟨gk, 0, none⟩)), (7, .pointer (some ⟨gl, 0, none⟩)), (8, .pointer (some ⟨gc, 0, none⟩)), (9, .func (.func 38) #[] #[.pointer (some ⟨gw, 0, none⟩), .pointer (some ⟨gk, 0, none⟩), .pointer (some ⟨gc, 0, none⟩), .pointer (some ⟨gl, 0, none⟩)])]) (fun gg => blk gw [.pointer (some ⟨g, 0, none⟩)] 122 :: blk gk [.int .i64 gg.2.2.2.2.1] 3 :: blk gc [.int .i64 gg.2.2.2.2.2.1] 3 :: blk gl [.slice gg.2.2.2.2.2.2.1 gg.2.2.2.2.2.2.2.1 gg.2.2.2.2.2.2.2.2.1] 60 :: lst (.slice gg.2.2.2.2.2.2.1 gg.2.2.2.2.2.2.2.1 gg.2.2.2.2.2.2.2.2.1) gg.2.2.2.2.2.2.2.1 gg.2.2.2.2.2.2.2.2.2.1 :: gg.2.2.2.2.2.2.2.2.2.2.2) ⟨A, N, c, l, 258, 0, AL, 0, cL, [], k0, T1⟩ (⟨hr, hl, Nat.le_refl _, by dsimp only; omega, by dsimp only; omega, Int.le_refl 0, by dsimp only; omega, rfl, Nat.zero_le _, by dsimp only; omega, by rw [Nat.zero_add] at hT1; exact hT1⟩) ⟨rfl, rfl, rfl, rfl, rfl, rfl, rfl, trivial⟩ ((((f4).trans f4).trans f4).trans f4) ?_
  rintro ⟨Ad, kd, cd, ld, known, count, AL, nl, cL, ws, j, T⟩ hI
  replace hI : (∀ w, Sat w F → Reads w (.slice Ad kd cd) 1 kd (by8 ld)) ∧ ld.length = kd ∧ kd ≤ N ∧ 0 ≤ known ∧ known ≤ 258 + (N - kd) ∧ 0 ≤ count ∧ count ≤ N - kd ∧ ws.length = nl ∧ nl ≤ N - kd ∧ j + 24 * kd ≤ 24 * N + 12 ∧ Wr 124 g j F T := hI
  obtain ⟨hd, hld, hkN, hk0, hk1, hc0, hc1, hws, hnl, hj, hT⟩ := hI
  refine c_have (p := kd ≤ cd) (fun w h => (hd w (hT.frame w h.tail.tail.tail.tail.tail)).cap) ?_
  intro hkc
  refine c_sub (L' := [(0, .slice Ad kd cd), (1, .int .i64 37), (5, .pointer (some ⟨gw, 0, none⟩)), (6, .pointer (some ⟨gk, 0, none⟩)), (7, .pointer (some ⟨gl, 0, none⟩)), (8, .pointer (some ⟨gc, 0, none⟩)), (9, .func (.func 38) #[] #[.pointer (some ⟨gw, 0, none⟩), .pointer (some ⟨gk, 0, none⟩), .pointer (some ⟨gc, 0, none⟩), .pointer (some ⟨gl, 0, none⟩)])]) ⟨rfl, rfl, rfl, rfl, rfl, rfl, rfl, trivial⟩ ?_
  refine c_perm (T := blk gw [.pointer (some ⟨g, 0, none⟩)] 122 :: blk gk [.int .i64 known] 3 :: blk gc [.int .i64 count] 3 :: blk gl [.slice AL nl cL] 60 :: lst (.slice AL nl cL) nl ws :: T) f0 ?_
  refine c_seq ?_
  refine c_seq ?_
  refine c_region ?_
  refine s1 (p_move rfl) rfl rfl rfl ?_
  refine s1 (p_len Tryz.underlying23 rfl) rfl rfl rfl ?_
  refine s1 (p_gt rfl rfl) rfl rfl rfl ?_
  refine s_nil ?_
  refine x_next ?_
  refine c_if rfl (fun h24 => ?_) (fun h24 => ?_)
  · refine c_skip ?_
    refine x_next ?_
    refine c_block ?_
    refine c_seq ?_
    refine c_region ?_
    refine s1 (p_move rfl) rfl rfl rfl ?_
    refine s1 (p_index (kk := 0) Tryz.underlying23 sz5 rfl rfl (fun w h => hd w (hT.frame w h.tail.tail.tail.tail.tail)) (by omega) (by omega) (by omega)) rfl rfl rfl ?_
    refine s1 (p_loadE Tryz.underlying5 rfl rfl (fun w h => hd w (hT.frame w h.tail.tail.tail.tail.tail)) (by8_get (by omega))) rfl rfl rfl ?_
    refine s1 (p_conv Tryz.underlying5 Tryz.underlying3 rfl rfl) rfl rfl rfl ?_
    refine s1 (p_assign rfl) rfl rfl rfl ?_
    refine s1 (p_assign rfl) rfl rfl rfl ?_
    refine s_nil ?_
    refine x_next ?_
    refine c_cut (α := (Int) × (Nat)) (fun gg => 1 ≤ gg.2 ∧ gg.2 ≤ kd) (fun gg => [(0, .slice Ad kd cd), (1, .int .i64 37), (5, .pointer (some ⟨gw, 0, none⟩)), (6, .pointer (some ⟨gk, 0, none⟩)), (7, .pointer (some ⟨gl, 0, none⟩)), (8, .pointer (some ⟨gc, 0, none⟩)), (9, .func (.func 38) #[] #[.pointer (some ⟨gw, 0, none⟩), .pointer (some ⟨gk, 0, none⟩), .pointer (some ⟨gc, 0, none⟩), .pointer (some ⟨gl, 0, none⟩)]), (11, .int .i64 gg.1), (12, .int .i64 (gg.2 : Int))]) (fun gg => blk gw [.pointer (some ⟨g, 0, none⟩)] 122 :: blk gk [.int .i64 known] 3 :: blk gc [.int .i64 count] 3 :: blk gl [.slice AL nl cL] 60 :: lst (.slice AL nl cL) nl ws :: T) ?_ ?_
    · refine c_seq ?_
      refine c_region ?_
      refine s1 (p_load m3 Tryz.underlying60 rfl rfl rfl) rfl rfl rfl ?_
      refine s1 (p_len Tryz.underlying60 rfl) rfl rfl rfl ?_
      refine s1 (p_move rfl) rfl rfl rfl ?_
      refine s_nil ?_
      refine x_next ?_
      refine c_block ?_
      refine c_loop (α := (Nat) × (Int) × (Nat)) (fun gg => gg.1 ≤ nl ∧ 1 ≤ gg.2.2 ∧ gg.2.2 ≤ kd) (fun gg => nl - gg.1) (fun gg => [(0, .slice Ad kd cd), (1, .int .i64 37), (5, .pointer (some ⟨gw, 0, none⟩)), (6, .pointer (some ⟨gk, 0, none⟩)), (7, .pointer (some ⟨gl, 0, none⟩)), (8, .pointer (some ⟨gc, 0, none⟩)), (9, .func (.func 38) #[] #[.pointer (some ⟨gw, 0, none⟩), .pointer (some ⟨gk, 0, none⟩), .pointer (some ⟨gc, 0, none⟩), .pointer (some ⟨gl, 0, none⟩)]), (11, .int .i64 gg.2.1), (12, .int .i64 (gg.2.2 : Int)), (29, .slice AL nl cL), (30, .int .i64 (nl : Int)), (31, .int .i64 (gg.1 : Int))]) (fun gg => blk gw [.pointer (some ⟨g, 0, none⟩)] 122 :: blk gk [.int .i64 known] 3 :: blk gc [.int .i64 count] 3 :: blk gl [.slice AL nl cL] 60 :: lst (.slice AL nl cL) nl ws :: T) ⟨0, _, 1⟩ (⟨Nat.zero_le _, Nat.le_refl 1, by dsimp only; omega⟩) ⟨rfl, rfl, rfl, rfl, rfl, rfl, rfl, rfl, rfl, rfl, rfl, rfl, trivial⟩ (((((f4).trans f4).trans f4).trans f4).trans f4) ?_
      rintro ⟨i, code, n⟩ hI
      replace hI : i ≤ nl ∧ 1 ≤ n ∧ n ≤ kd := hI
      obtain ⟨hi, hn⟩ := hI
      refine c_sub (L' := [(0, .slice Ad kd cd), (1, .int .i64 37), (5, .pointer (some ⟨gw, 0, none⟩)), (6, .pointer (some ⟨gk, 0, none⟩)), (7, .pointer (some ⟨gl, 0, none⟩)), (8, .pointer (some ⟨gc, 0, none⟩)), (9, .func (.func 38) #[] #[.pointer (some ⟨gw, 0, none⟩), .pointer (some ⟨gk, 0, none⟩), .pointer (some ⟨gc, 0, none⟩), .pointer (some ⟨gl, 0, none⟩)]), (11, .int .i64 code), (12, .int .i64 (n : Int)), (29, .slice AL nl cL), (30, .int .i64 (nl : Int)), (31, .int .i64 (i : Int))]) ⟨rfl, rfl, rfl, rfl, rfl, rfl, rfl, rfl, rfl, rfl, rfl, rfl, trivial⟩ ?_
      refine c_perm (T := blk gw [.pointer (some ⟨g, 0, none⟩)] 122 :: blk gk [.int .i64 known] 3 :: blk gc [.int .i64 count] 3 :: blk gl [.slice AL nl cL] 60 :: lst (.slice AL nl cL) nl ws :: T) f0 ?_
      refine c_seq ?_
      refine c_region ?_
      refine s1 (p_lt rfl rfl) rfl rfl rfl ?_
      refine s_nil ?_
      refine x_next ?_
      refine c_seq ?_
      refine c_if rfl (fun h32 => ?_) (fun h32 => ?_)
      · refine c_skip ?_
        refine x_next ?_
        refine c_seq ?_
        refine c_block ?_
        refine c_seq ?_
        obtain ⟨⟨Aw, cw_, lw⟩, hwd⟩ : ∃ x, ws[i]? = some x := ⟨_, List.getElem?_eq_getElem (by omega)⟩
        refine c_region ?_
        refine s1 (p_move rfl) rfl rfl rfl ?_
        refine s1 (p_index (kk := i) Tryz.underlying60 sz23 rfl rfl (rd_lst m4) (by omega) (by omega) (by omega)) rfl rfl rfl ?_
        refine s1 (p_loadE (u := .slice Aw lw.length cw_) Tryz.underlying23 rfl rfl (rd_lst m4) (by rw [List.getElem?_map, hwd]; rfl)) rfl rfl rfl ?_
        refine s1 (p_assign rfl) rfl rfl rfl ?_
        refine s1 (p_assign rfl) rfl rfl rfl ?_
        refine s_nil ?_
        refine x_next ?_
        refine c_seq ?_
        rcases three ((lw.length : Int) > (n : Int)) ((lw.length : Int) ≤ (kd : Int)) with hq | hq | hq
        · refine c_draw 21 (blk gw [.pointer (some ⟨g, 0, none⟩)] 122 :: blk gk [.int .i64 known] 3 :: blk gc [.int .i64 count] 3 :: blk gl [.slice AL nl cL] 60 :: lst (.slice AL nl cL) nl ws :: T) mixed ?_
          refine d_take 0 rfl (p_move rfl) rfl rfl rfl (by kernel_rfl) (fun _ h => h) ?_
          refine d_take 1 rfl (p_len Tryz.underlying23 rfl) rfl rfl rfl (by kernel_rfl) (fun _ h => h) ?_
          refine d_take 2 rfl (p_move rfl) rfl rfl rfl (by kernel_rfl) (fun _ h => h) ?_
          refine d_take 3 rfl (pb_false (p_gt rfl rfl) (by omega)) rfl rfl rfl (by kernel_rfl) (fun _ h => h) ?_
          refine d_take 4 rfl (p_move rfl) rfl rfl rfl (by kernel_rfl) (fun _ h => h) ?_
          refine d_skip 5 rfl rfl rfl rfl rfl rfl (by kernel_rfl) (fun _ h => h) ?_
          refine d_skip 6 rfl rfl rfl rfl rfl rfl (by kernel_rfl) (fun _ h => h) ?_
          refine d_skip 7 rfl rfl rfl rfl rfl rfl (by kernel_rfl) (fun _ h => h) ?_
          refine d_skip 8 rfl rfl rfl rfl rfl rfl (by kernel_rfl) (fun _ h => h) ?_
          refine d_skip 9 rfl rfl rfl rfl rfl rfl (by kernel_rfl) (fun _ h => h) ?_
          refine d_take 10 rfl (p_pickF rfl rfl) rfl rfl rfl (by kernel_rfl) (fun _ h => h) ?_
          refine d_take 11 rfl (p_move rfl) rfl rfl rfl (by kernel_rfl) (fun _ h => h) ?_
          refine d_skip 12 rfl rfl rfl rfl rfl rfl (by kernel_rfl) (fun _ h => h) ?_
          refine d_skip 13 rfl rfl rfl rfl rfl rfl (by kernel_rfl) (fun _ h => h) ?_
          refine d_skip 14 rfl rfl rfl rfl rfl rfl (by kernel_rfl) (fun _ h => h) ?_
          refine d_skip 15 rfl rfl rfl rfl rfl rfl (by kernel_rfl) (fun _ h => h) ?_
          refine d_skip 16 rfl rfl rfl rfl rfl rfl (by kernel_rfl) (fun _ h => h) ?_
          refine d_skip 17 rfl rfl rfl rfl rfl rfl (by kernel_rfl) (fun _ h => h) ?_
          refine d_skip 18 rfl rfl rfl rfl rfl rfl (by kernel_rfl) (fun _ h => h) ?_
          refine d_skip 19 rfl rfl rfl rfl rfl rfl (by kernel_rfl) (fun _ h => h) ?_
          refine d_take 20 rfl (p_pickF rfl rfl) rfl rfl rfl (by kernel_rfl) (fun _ h => h) ?_
          refine d_done (by kernel_rfl) ?_
          refine x_next ?_
          refine c_false rfl ?_
          refine c_skip ?_
          refine x_block ?_
          refine x_next ?_
          refine c_region ?_
          refine s1 (p_add rfl rfl (w64 (by omega))) rfl rfl rfl ?_
          refine s1 (p_move rfl) rfl rfl rfl ?_
          refine s_nil ?_
          exact x_loop ⟨i + 1, code, n⟩ (⟨by first | omega | (dsimp only; omega), hn⟩) (by first | omega | (dsimp only; omega)) ⟨rfl, rfl, rfl, rfl, rfl, rfl, rfl, rfl, rfl, rfl, rfl, rfl, trivial⟩ (((((f4).trans f4).trans f4).trans f4).trans f4)
        · have hq1 := hq.1
          have hq2 := hq.2
          refine c_draw 21 (blk gw [.pointer (some ⟨g, 0, none⟩)] 122 :: blk gk [.int .i64 known] 3 :: blk gc [.int .i64 count] 3 :: blk gl [.slice AL nl cL] 60 :: lst (.slice AL nl cL) nl ws :: T) mixed ?_
          refine d_take 0 rfl (p_move rfl) rfl rfl rfl (by kernel_rfl) (fun _ h => h) ?_
          refine d_take 1 rfl (p_len Tryz.underlying23 rfl) rfl rfl rfl (by kernel_rfl) (fun _ h => h) ?_
          refine d_take 2 rfl (p_move rfl) rfl rfl rfl (by kernel_rfl) (fun _ h => h) ?_
          refine d_take 3 rfl (pb_true (p_gt rfl rfl) (by omega)) rfl rfl rfl (by kernel_rfl) (fun _ h => h) ?_
          refine d_take 4 rfl (p_move rfl) rfl rfl rfl (by kernel_rfl) (fun _ h => h) ?_
          refine d_takeg 5 rfl (p_move rfl) rfl rfl rfl rfl (by kernel_rfl) (fun _ h => h) ?_
          refine d_takeg 6 rfl (p_len Tryz.underlying23 rfl) rfl rfl rfl rfl (by kernel_rfl) (fun _ h => h) ?_
          refine d_takeg 7 rfl (p_move rfl) rfl rfl rfl rfl (by kernel_rfl) (fun _ h => h) ?_
          refine d_takeg 8 rfl (p_len Tryz.underlying23 rfl) rfl rfl rfl rfl (by kernel_rfl) (fun _ h => h) ?_
          refine d_takeg 9 rfl (pb_false (p_le rfl rfl) (by omega)) rfl rfl rfl rfl (by kernel_rfl) (fun _ h => h) ?_
          refine d_take 10 rfl (p_pickT rfl rfl) rfl rfl rfl (by kernel_rfl) (fun _ h => h) ?_
          refine d_take 11 rfl (p_move rfl) rfl rfl rfl (by kernel_rfl) (fun _ h => h) ?_
          refine d_skip 12 rfl rfl rfl rfl rfl rfl (by kernel_rfl) (fun _ h => h) ?_
          refine d_skip 13 rfl rfl rfl rfl rfl rfl (by kernel_rfl) (fun _ h => h) ?_
          refine d_skip 14 rfl rfl rfl rfl rfl rfl (by kernel_rfl) (fun _ h => h) ?_
          refine d_skip 15 rfl rfl rfl rfl rfl rfl (by kernel_rfl) (fun _ h => h) ?_
          refine d_skip 16 rfl rfl rfl rfl rfl rfl (by kernel_rfl) (fun _ h => h) ?_
          refine d_skip 17 rfl rfl rfl rfl rfl rfl (by kernel_rfl) (fun _ h => h) ?_
          refine d_skip 18 rfl rfl rfl rfl rfl rfl (by kernel_rfl) (fun _ h => h) ?_
          refine d_skip 19 rfl rfl rfl rfl rfl rfl (by kernel_rfl) (fun _ h => h) ?_
          refine d_take 20 rfl (p_pickF rfl rfl) rfl rfl rfl (by kernel_rfl) (fun _ h => h) ?_
          refine d_done (by kernel_rfl) ?_
          refine x_next ?_
          refine c_false rfl ?_
          refine c_skip ?_
          refine x_block ?_
          refine x_next ?_
          refine c_region ?_
          refine s1 (p_add rfl rfl (w64 (by omega))) rfl rfl rfl ?_
          refine s1 (p_move rfl) rfl rfl rfl ?_
          refine s_nil ?_
          exact x_loop ⟨i + 1, code, n⟩ (⟨by first | omega | (dsimp only; omega), hn⟩) (by first | omega | (dsimp only; omega)) ⟨rfl, rfl, rfl, rfl, rfl, rfl, rfl, rfl, rfl, rfl, rfl, rfl, trivial⟩ (((((f4).trans f4).trans f4).trans f4).trans f4)
        · have hq1 := hq.1
          have hq2 := hq.2
          refine c_draw 21 (blk gw [.pointer (some ⟨g, 0, none⟩)] 122 :: blk gk [.int .i64 known] 3 :: blk gc [.int .i64 count] 3 :: blk gl [.slice AL nl cL] 60 :: lst (.slice AL nl cL) nl ws :: T) mixed ?_
          refine d_take 0 rfl (p_move rfl) rfl rfl rfl (by kernel_rfl) (fun _ h => h) ?_
          refine d_take 1 rfl (p_len Tryz.underlying23 rfl) rfl rfl rfl (by kernel_rfl) (fun _ h => h) ?_
          refine d_take 2 rfl (p_move rfl) rfl rfl rfl (by kernel_rfl) (fun _ h => h) ?_
          refine d_take 3 rfl (pb_true (p_gt rfl rfl) (by omega)) rfl rfl rfl (by kernel_rfl) (fun _ h => h) ?_
          refine d_take 4 rfl (p_move rfl) rfl rfl rfl (by kernel_rfl) (fun _ h => h) ?_
          refine d_takeg 5 rfl (p_move rfl) rfl rfl rfl rfl (by kernel_rfl) (fun _ h => h) ?_
          refine d_takeg 6 rfl (p_len Tryz.underlying23 rfl) rfl rfl rfl rfl (by kernel_rfl) (fun _ h => h) ?_
          refine d_takeg 7 rfl (p_move rfl) rfl rfl rfl rfl (by kernel_rfl) (fun _ h => h) ?_
          refine d_takeg 8 rfl (p_len Tryz.underlying23 rfl) rfl rfl rfl rfl (by kernel_rfl) (fun _ h => h) ?_
          refine d_takeg 9 rfl (pb_true (p_le rfl rfl) (by omega)) rfl rfl rfl rfl (by kernel_rfl) (fun _ h => h) ?_
          refine d_take 10 rfl (p_pickT rfl rfl) rfl rfl rfl (by kernel_rfl) (fun _ h => h) ?_
          refine d_take 11 rfl (p_move rfl) rfl rfl rfl (by kernel_rfl) (fun _ h => h) ?_
          refine d_takeg 12 rfl (p_move rfl) rfl rfl rfl rfl (by kernel_rfl) (fun _ h => h) ?_
          refine d_takeg 13 rfl (p_move rfl) rfl rfl rfl rfl (by kernel_rfl) (fun _ h => h) ?_
          refine d_takeg 14 rfl (p_len Tryz.underlying23 rfl) rfl rfl rfl rfl (by kernel_rfl) (fun _ h => h) ?_
          refine d_takeg 15 rfl (p_sliceH (h := lw.length) Tryz.underlying23 sz5 rfl rfl rfl (by omega)) rfl rfl rfl rfl (by kernel_rfl) (fun _ h => h) ?_
          refine d_takeg 16 rfl (p_b2s Tryz.underlying23 Tryz.underlying5 Tryz.underlying9 rfl (rd_slice8 (lo := 0) (hi := lw.length) (fun w h => hd w (hT.frame w h.tail.tail.tail.tail.tail)) (by omega) (by omega))) rfl rfl rfl rfl (by kernel_rfl) (fun _ h => h) ?_
          refine d_takeg 17 rfl (p_move rfl) rfl rfl rfl rfl (by kernel_rfl) (fun _ h => h) ?_
          refine d_takeg 18 rfl (p_b2s Tryz.underlying23 Tryz.underlying5 Tryz.underlying9 rfl (rd_word m4 hwd)) rfl rfl rfl rfl (by kernel_rfl) (fun _ h => h) ?_
          refine d_takeg 19 rfl (p_seq rfl rfl) rfl rfl rfl rfl (by kernel_rfl) (fun _ h => h) ?_
          refine d_take 20 rfl (p_pickT rfl rfl) rfl rfl rfl (by kernel_rfl) (fun _ h => h) ?_
          refine d_done (by kernel_rfl) ?_
          refine x_next ?_
          refine c_ifb rfl (fun h56 => ?_) (fun h56 => ?_)
          · refine c_region ?_
            refine s1 (p_move rfl) rfl rfl rfl ?_
            refine s1 (p_add rfl rfl (w64 (by omega))) rfl rfl rfl ?_
            refine s1 (p_move rfl) rfl rfl rfl ?_
            refine s1 (p_len Tryz.underlying23 rfl) rfl rfl rfl ?_
            refine s1 (p_assign rfl) rfl rfl rfl ?_
            refine s1 (p_assign rfl) rfl rfl rfl ?_
            refine s_nil ?_
            refine x_block ?_
            refine x_next ?_
            refine c_region ?_
            refine s1 (p_add rfl rfl (w64 (by omega))) rfl rfl rfl ?_
            refine s1 (p_move rfl) rfl rfl rfl ?_
            refine s_nil ?_
            exact x_loop ⟨i + 1, 258 + (i : Int), lw.length⟩ (⟨by first | omega | (dsimp only; omega), by first | omega | (dsimp only; omega), by first | omega | (dsimp only; omega)⟩) (by first | omega | (dsimp only; omega)) ⟨rfl, rfl, rfl, rfl, rfl, rfl, rfl, rfl, rfl, rfl, rfl, rfl, trivial⟩ (((((f4).trans f4).trans f4).trans f4).trans f4)
          · refine c_skip ?_
            refine x_block ?_
            refine x_next ?_
            refine c_region ?_
            refine s1 (p_add rfl rfl (w64 (by omega))) rfl rfl rfl ?_
            refine s1 (p_move rfl) rfl rfl rfl ?_
            refine s_nil ?_
            exact x_loop ⟨i + 1, code, n⟩ (⟨by first | omega | (dsimp only; omega), hn⟩) (by first | omega | (dsimp only; omega)) ⟨rfl, rfl, rfl, rfl, rfl, rfl, rfl, rfl, rfl, rfl, rfl, rfl, trivial⟩ (((((f4).trans f4).trans f4).trans f4).trans f4)
      · refine c_exit ?_
        refine x_exit_then ?_
        refine x_exit_then ?_
        refine x_exit_here ?_
        exact x_cut ⟨code, n⟩ (hn) ⟨rfl, rfl, rfl, rfl, rfl, rfl, rfl, rfl, rfl, trivial⟩ (((((f4).trans f4).trans f4).trans f4).trans f4)
    · rintro ⟨code, n⟩ hI
      replace hI : 1 ≤ n ∧ n ≤ kd := hI
      obtain ⟨hn1, hn2⟩ := hI
      refine c_sub (L' := [(0, .slice Ad kd cd), (1, .int .i64 37), (5, .pointer (some ⟨gw, 0, none⟩)), (6, .pointer (some ⟨gk, 0, none⟩)), (7, .pointer (some ⟨gl, 0, none⟩)), (8, .pointer (some ⟨gc, 0, none⟩)), (9, .func (.func 38) #[] #[.pointer (some ⟨gw, 0, none⟩), .pointer (some ⟨gk, 0, none⟩), .pointer (some ⟨gc, 0, none⟩), .pointer (some ⟨gl, 0, none⟩)]), (11, .int .i64 code), (12, .int .i64 (n : Int))]) ⟨rfl, rfl, rfl, rfl, rfl, rfl, rfl, rfl, rfl, trivial⟩ ?_
      refine c_perm (T := blk gw [.pointer (some ⟨g, 0, none⟩)] 122 :: blk gk [.int .i64 known] 3 :: blk gc [.int .i64 count] 3 :: blk gl [.slice AL nl cL] 60 :: lst (.slice AL nl cL) nl ws :: T) f0 ?_
      refine c_seq ?_
      refine c_draw 5 ([blk gw [.pointer (some ⟨g, 0, none⟩)] 122, blk gk [.int .i64 known] 3, blk gc [.int .i64 count] 3, blk gl [.slice AL nl cL] 60]) mixed ?_
      refine d_take 0 rfl (p_load m0 Tryz.underlying122 rfl rfl rfl) rfl rfl rfl (by kernel_rfl) (fun _ h => Sat.t4 (Sat.perm ((((f3).trans f3).trans f3).trans f3) h)) ?_
      refine d_take 1 rfl (p_move rfl) rfl rfl rfl (by kernel_rfl) (fun _ h => Sat.t4 (Sat.perm ((((f3).trans f3).trans f3).trans f3) h)) ?_
      refine d_take 2 rfl (p_load m1 Tryz.underlying3 rfl rfl rfl) rfl rfl rfl (by kernel_rfl) (fun _ h => Sat.t4 (Sat.perm ((((f3).trans f3).trans f3).trans f3) h)) ?_
      refine d_step 3 rfl (by kernel_rfl) (st_call Tryz.func40 nm40 bo40 rfl (lzwWidth_spec known)) rfl rfl rfl ?_
      rintro _ _ ⟨rfl, nn, rfl, hnn1, hnn2⟩
      refine ⟨fun _ => (fun _ h => Sat.t4 (Sat.perm ((((f3).trans f3).trans f3).trans f3) h)), ?_⟩
      obtain ⟨T1_, hT1_, hp1_⟩ := hT.pushes [blk gw [.pointer (some ⟨g, 0, none⟩)] 122, blk gk [.int .i64 known] 3, blk gc [.int .i64 count] 3, blk gl [.slice AL nl cL] 60, lst (.slice AL nl cL) nl ws]
      refine h_perm hp1_ ?_
      refine d_step 4 rfl (by kernel_rfl) (st_call Tryz.func39 nm39 bo39 rfl (pword_spec g j _ nn (by omega) (by omega) (by omega) hT1_)) rfl rfl rfl ?_
      rintro _ T2 ⟨rfl, hT2⟩
      refine ⟨fun _ => (fun _ h => Sat.t4 (hT2.frame _ h)), ?_⟩
      obtain ⟨T3, hT3, hp3⟩ := hT2.pops [blk gw [.pointer (some ⟨g, 0, none⟩)] 122, blk gk [.int .i64 known] 3, blk gc [.int .i64 count] 3, blk gl [.slice AL nl cL] 60, lst (.slice AL nl cL) nl ws]
      refine h_perm hp3 ?_
      refine d_done (by kernel_rfl) ?_
      refine x_next ?_
      refine c_cut (α := (Int)) (fun gg => 0 ≤ gg ∧ gg ≤ known + 1) (fun gg => [(0, .slice Ad kd cd), (1, .int .i64 37), (5, .pointer (some ⟨gw, 0, none⟩)), (6, .pointer (some ⟨gk, 0, none⟩)), (7, .pointer (some ⟨gl, 0, none⟩)), (8, .pointer (some ⟨gc, 0, none⟩)), (9, .func (.func 38) #[] #[.pointer (some ⟨gw, 0, none⟩), .pointer (some ⟨gk, 0, none⟩), .pointer (some ⟨gc, 0, none⟩), .pointer (some ⟨gl, 0, none⟩)]), (11, .int .i64 code), (12, .int .i64 (n : Int))]) (fun gg => blk gw [.pointer (some ⟨g, 0, none⟩)] 122 :: blk gk [.int .i64 gg] 3 :: blk gc [.int .i64 count] 3 :: blk gl [.slice AL nl cL] 60 :: lst (.slice AL nl cL) nl ws :: T3) ?_ ?_
      · refine c_seq ?_
        refine c_region ?_
        refine s1 (p_load m2 Tryz.underlying3 rfl rfl rfl) rfl rfl rfl ?_
        refine s1 (p_gt rfl rfl) rfl rfl rfl ?_
        refine s_nil ?_
        refine x_next ?_
        refine c_if rfl (fun h68 => ?_) (fun h68 => ?_)
        · refine c_region ?_
          refine s1 (p_load m1 Tryz.underlying3 rfl rfl rfl) rfl rfl rfl ?_
          refine s1 (p_add rfl rfl (w64 (by omega))) rfl rfl rfl ?_
          refine s_perm f1 ?_
          refine s_step0 (st_store rfl rfl rfl sz3 (by simp)) rfl rfl ?_
          rintro _ _ rfl
          refine s_nil ?_
          exact x_cut (known + 1) (⟨by omega, by omega⟩) ⟨rfl, rfl, rfl, rfl, rfl, rfl, rfl, rfl, rfl, trivial⟩ (((((f4).trans f4).trans f4).trans f3).trans f4)
        · refine c_skip ?_
          exact x_cut known (⟨by omega, by omega⟩) ⟨rfl, rfl, rfl, rfl, rfl, rfl, rfl, rfl, rfl, trivial⟩ (((((f4).trans f4).trans f4).trans f4).trans f4)
      · rintro known2 hI
        replace hI : 0 ≤ known2 ∧ known2 ≤ known + 1 := hI
        obtain ⟨hk20, hk21⟩ := hI
        refine c_sub (L' := [(0, .slice Ad kd cd), (1, .int .i64 37), (5, .pointer (some ⟨gw, 0, none⟩)), (6, .pointer (some ⟨gk, 0, none⟩)), (7, .pointer (some ⟨gl, 0, none⟩)), (8, .pointer (some ⟨gc, 0, none⟩)), (9, .func (.func 38) #[] #[.pointer (some ⟨gw, 0, none⟩), .pointer (some ⟨gk, 0, none⟩), .pointer (some ⟨gc, 0, none⟩), .pointer (some ⟨gl, 0, none⟩)]), (11, .int .i64 code), (12, .int .i64 (n : Int))]) ⟨rfl, rfl, rfl, rfl, rfl, rfl, rfl, rfl, rfl, trivial⟩ ?_
        refine c_perm (T := blk gw [.pointer (some ⟨g, 0, none⟩)] 122 :: blk gk [.int .i64 known2] 3 :: blk gc [.int .i64 count] 3 :: blk gl [.slice AL nl cL] 60 :: lst (.slice AL nl cL) nl ws :: T3) f0 ?_
        refine c_seq ?_
        refine c_region ?_
        refine s_step (st_buildSlice (e := 5) (size := 1) rfl (fun w => bs23_0 w) rfl (by omega)) rfl rfl rfl ?_
        rintro _ _ ⟨g3, rfl, rfl⟩
        refine s1 (p_move rfl) rfl rfl rfl ?_
        refine s1 (p_move rfl) rfl rfl rfl ?_
        refine s1 (p_sliceH (h := n) Tryz.underlying23 sz5 rfl rfl rfl (by omega)) rfl rfl rfl ?_
        refine s_step (st_append (xs := []) (n := 0) Tryz.underlying23 inf5 rfl (by omega) rfl rfl (rd_slice8 (lo := 0) (hi := n) (fun w h => hd w (hT3.frame w h.tail.tail.tail.tail.tail.tail)) (by omega) (by omega)) (by8_one _) ⟨by omega, by omega⟩) rfl rfl rfl ?_
        rintro _ _ ⟨A5, c5, rfl, rfl⟩
        refine s1 (p_assign rfl) rfl rfl rfl ?_
        refine s_nil ?_
        refine x_next ?_
        refine c_seq ?_
        have hd2 : ∀ w, Sat w F → Reads w (.slice (slA Ad cd n 1) (kd - n) (cd - n)) 1 (kd - n) (by8 (ld.drop n)) := by
          intro w h
          have := rd_slice8 (S := F) (lo := n) (hi := kd) hd (by omega) (by omega) w h
          rwa [List.take_of_length_le (by simp [hld])] at this
        refine c_region ?_
        refine s1 (p_move rfl) rfl rfl rfl ?_
        refine s1 (p_move rfl) rfl rfl rfl ?_
        refine s1 (p_sliceL (l := n) Tryz.underlying23 sz5 rfl rfl rfl (by omega) (by omega)) rfl rfl rfl ?_
        refine s1 (p_assign rfl) rfl rfl rfl ?_
        refine s_nil ?_
        refine x_next ?_
        refine c_seq ?_
        refine c_region ?_
        refine s1 (p_load m3 Tryz.underlying3 rfl rfl rfl) rfl rfl rfl ?_
        refine s1 (p_add rfl rfl (w64 (by omega))) rfl rfl rfl ?_
        refine s_perm f3 ?_
        refine s_step0 (st_store rfl rfl rfl sz3 (by simp)) rfl rfl ?_
        rintro _ _ rfl
        refine s_nil ?_
        refine x_next ?_
        refine c_cut (α := (Option Addr) × (Nat) × (Nat) × (List (Option Addr × Nat × List Int))) (fun gg => gg.2.2.2.length = gg.2.1 ∧ gg.2.1 ≤ nl + 1) (fun gg => [(0, .slice (slA Ad cd n 1) (kd - n) (cd - n)), (1, .int .i64 37), (5, .pointer (some ⟨gw, 0, none⟩)), (6, .pointer (some ⟨gk, 0, none⟩)), (7, .pointer (some ⟨gl, 0, none⟩)), (8, .pointer (some ⟨gc, 0, none⟩)), (9, .func (.func 38) #[] #[.pointer (some ⟨gw, 0, none⟩), .pointer (some ⟨gk, 0, none⟩), .pointer (some ⟨gc, 0, none⟩), .pointer (some ⟨gl, 0, none⟩)])]) (fun gg => blk gw [.pointer (some ⟨g, 0, none⟩)] 122 :: blk gk [.int .i64 known2] 3 :: blk gc [.int .i64 (count + 1)] 3 :: blk gl [.slice gg.1 gg.2.1 gg.2.2.1] 60 :: lst (.slice gg.1 gg.2.1 gg.2.2.1) gg.2.1 gg.2.2.2 :: T3) ?_ ?_
        · refine c_seq ?_
          refine c_region ?_
          refine s1 (p_move rfl) rfl rfl rfl ?_
          refine s1 (p_len Tryz.underlying23 rfl) rfl rfl rfl ?_
          refine s1 (p_gt rfl rfl) rfl rfl rfl ?_
          refine s_nil ?_
          refine x_next ?_
          refine c_if rfl (fun h83 => ?_) (fun h83 => ?_)
          · refine c_perm f5 ?_
            refine c_perm f5 ?_
            refine c_perm f2 ?_
            refine c_perm f5 ?_
            refine c_perm f5 ?_
            refine c_perm f5 ?_
            refine c_draw 9 (blk gw [.pointer (some ⟨g, 0, none⟩)] 122 :: blk gk [.int .i64 known2] 3 :: blk gc [.int .i64 (count + 1)] 3 :: blk gl [.slice AL nl cL] 60 :: T3) mixed ?_
            refine d_take 0 rfl (p_load m3 Tryz.underlying60 rfl rfl rfl) rfl rfl rfl (by kernel_rfl) (fun _ h => Sat.tail (Sat.tail (Sat.perm ((((((f4).trans f4).trans f4).trans f4).trans f5).trans f5) h))) ?_
            refine d_take 1 rfl (p_move rfl) rfl rfl rfl (by kernel_rfl) (fun _ h => Sat.tail (Sat.tail (Sat.perm ((((((f4).trans f4).trans f4).trans f4).trans f5).trans f5) h))) ?_
            refine d_take 2 rfl (p_move rfl) rfl rfl rfl (by kernel_rfl) (fun _ h => Sat.tail (Sat.tail (Sat.perm ((((((f4).trans f4).trans f4).trans f4).trans f5).trans f5) h))) ?_
            refine d_take 3 rfl (p_index (kk := 0) Tryz.underlying23 sz5 rfl rfl (fun w h => hd2 w (hT3.frame w h.tail.tail.tail.tail)) (by omega) (by omega) (by omega)) rfl rfl rfl (by kernel_rfl) (fun _ h => Sat.tail (Sat.tail (Sat.perm ((((((f4).trans f4).trans f4).trans f4).trans f5).trans f5) h))) ?_
            refine d_take 4 rfl (p_loadE Tryz.underlying5 rfl rfl (fun w h => hd2 w (hT3.frame w h.tail.tail.tail.tail)) (by8_get (by simp [hld]; omega))) rfl rfl rfl (by kernel_rfl) (fun _ h => Sat.tail (Sat.tail (Sat.perm ((((((f4).trans f4).trans f4).trans f4).trans f5).trans f5) h))) ?_
            refine d_step 5 rfl (by kernel_rfl) (st_buildSlice (e := 5) (size := 1) rfl (fun w => bs23_1 _ w) rfl (by omega)) rfl rfl rfl ?_
            rintro _ _ ⟨g4, rfl, rfl⟩
            refine ⟨fun _ => (fun _ h => Sat.tail (Sat.tail (Sat.tail (Sat.perm (((((((f5).trans f5).trans f5).trans f5).trans f6).trans f6).trans f6) h)))), ?_⟩
            refine h_perm f1 ?_
            refine d_step 6 rfl (by kernel_rfl) (st_append Tryz.underlying23 inf5 rfl (by omega) rfl rfl (rd_own m1) (by simp [Value.oneCell']) ⟨by omega, by omega⟩) rfl rfl rfl ?_
            rintro _ _ ⟨A6, c6, rfl, rfl⟩
            refine ⟨fun _ => (fun _ h => Sat.tail (Sat.tail (Sat.tail (Sat.perm (((((((f5).trans f5).trans f5).trans f5).trans f6).trans f6).trans f6) h)))), ?_⟩
            refine d_step 7 rfl (by kernel_rfl) (st_buildSlice (e := 23) (size := 1) rfl (fun w => bs60_1 _ _ _ w) rfl (by omega)) rfl rfl rfl ?_
            rintro _ _ ⟨g5, rfl, rfl⟩
            refine ⟨fun _ => (fun _ h => Sat.tail (Sat.tail (Sat.tail (Sat.tail (Sat.perm ((((((((f6).trans f6).trans f6).trans f6).trans f7).trans f7).trans f7).trans f7) h))))), ?_⟩
            refine h_perm f7 ?_
            refine d_step 8 rfl (by kernel_rfl) (st_appendD (xs := ws.map wv) Tryz.underlying60 inf23 rfl (by omega) rfl rfl (rd_own m1) (by simp [Value.oneCell']) ⟨by omega, by omega⟩) rfl rfl rfl ?_
            rintro _ _ ⟨A8, c8, rfl, rfl⟩
            refine ⟨fun _ => (fun _ h => Sat.tail (Sat.tail (Sat.tail (Sat.tail (h))))), ?_⟩
            refine h_perm f7 ?_
            refine h_perm f7 ?_
            refine h_perm f7 ?_
            refine h_perm f7 ?_
            refine h_perm f6 ?_
            refine h_perm f5 ?_
            refine h_perm f7 ?_
            refine h_perm f7 ?_
            refine h_sat drop0 ?_
            refine h_sat drop0 ?_
            have e9 : ([] ++ by8 ((ld.drop 0).take (n - 0)) ++ [Value.int .u8 ((ld.drop n).getD 0 0)]) = by8 ((ld.drop 0).take (n - 0) ++ [(ld.drop n).getD 0 0]) := by simp [by8]
            rw [e9]
            refine h_sat (lst_take (by simp [hld]; omega)) ?_
            refine h_perm f4 ?_
            refine d_step0 9 rfl (by kernel_rfl) (st_store rfl rfl rfl sz60 (by simp)) rfl rfl ?_
            rintro _ _ rfl
            refine ⟨fun h => absurd rfl h, ?_⟩
            refine d_done (by kernel_rfl) ?_
            exact x_cut ⟨A8, nl + 1, c8, ws ++ [(A6, c6, _)]⟩ (⟨by simp [hws], Nat.le_refl _⟩) ⟨rfl, rfl, rfl, rfl, rfl, rfl, rfl, trivial⟩ (((((f1).trans f1).trans f4).trans f4).trans f4)
          · refine c_skip ?_
            refine x_perm f1 ?_
            refine x_sat drop0 ?_
            exact x_cut ⟨AL, nl, cL, ws⟩ (⟨hws, Nat.le_succ _⟩) ⟨rfl, rfl, rfl, rfl, rfl, rfl, rfl, trivial⟩ (((((f4).trans f4).trans f2).trans f4).trans f4)
        · rintro ⟨AL2, nl2, cL2, ws2⟩ hI
          replace hI : ws2.length = nl2 ∧ nl2 ≤ nl + 1 := hI
          obtain ⟨hw2, hn22⟩ := hI
          refine c_sub (L' := [(0, .slice (slA Ad cd n 1) (kd - n) (cd - n)), (1, .int .i64 37), (5, .pointer (some ⟨gw, 0, none⟩)), (6, .pointer (some ⟨gk, 0, none⟩)), (7, .pointer (some ⟨gl, 0, none⟩)), (8, .pointer (some ⟨gc, 0, none⟩)), (9, .func (.func 38) #[] #[.pointer (some ⟨gw, 0, none⟩), .pointer (some ⟨gk, 0, none⟩), .pointer (some ⟨gc, 0, none⟩), .pointer (some ⟨gl, 0, none⟩)])]) ⟨rfl, rfl, rfl, rfl, rfl, rfl, rfl, trivial⟩ ?_
          refine c_perm (T := blk gw [.pointer (some ⟨g, 0, none⟩)] 122 :: blk gk [.int .i64 known2] 3 :: blk gc [.int .i64 (count + 1)] 3 :: blk gl [.slice AL2 nl2 cL2] 60 :: lst (.slice AL2 nl2 cL2) nl2 ws2 :: T3) f0 ?_
          refine c_seq ?_
          rcases (show count + 1 ≥ 37 ∨ ¬ count + 1 ≥ 37 from by omega) with hq | hq
          · refine c_region ?_
            refine s1 (p_move rfl) rfl rfl rfl ?_
            refine s1 (pb_true (p_gt rfl rfl) (by omega)) rfl rfl rfl ?_
            refine s1 (p_move rfl) rfl rfl rfl ?_
            refine sg1 (p_load m2 Tryz.underlying3 rfl rfl rfl) rfl rfl rfl rfl ?_
            refine sg1 (p_move rfl) rfl rfl rfl rfl ?_
            refine sg1 (pb_true (p_ge rfl rfl) (by omega)) rfl rfl rfl rfl ?_
            refine s1 (p_pickT rfl rfl) rfl rfl rfl ?_
            refine s1 (p_move rfl) rfl rfl rfl ?_
            refine s_skip rfl rfl rfl rfl rfl ?_
            refine s_skip rfl rfl rfl rfl rfl ?_
            refine s1 (p_pickT rfl rfl) rfl rfl rfl ?_
            refine s_nil ?_
            refine x_next ?_
            refine c_true rfl ?_
            refine c_perm f4 ?_
            refine c_perm f4 ?_
            refine c_perm f4 ?_
            refine c_perm f4 ?_
            refine c_perm f4 ?_
            obtain ⟨T9_, hT9_, hp9_⟩ := hT3.push (lst (.slice AL2 nl2 cL2) nl2 ws2)
            refine c_perm ((((hp9_.cons _).cons _).cons _).cons _) ?_
            refine c_region ?_
            refine s1 (p_move rfl) rfl rfl rfl ?_
            refine s_step (st_callV (vs := []) (caps := [.pointer (some ⟨gw, 0, none⟩), .pointer (some ⟨gk, 0, none⟩), .pointer (some ⟨gc, 0, none⟩), .pointer (some ⟨gl, 0, none⟩)]) Tryz.func38 nm38 bo38 rfl rfl rfl (clear_spec g gw gk gc gl (j + nn.toNat) known2 (count + 1) AL2 nl2 cL2 (by omega) hT9_)) rfl rfl rfl ?_
            rintro _ _ ⟨rfl, A9, c9, k9, T8, hk9, hT8, rfl⟩
            obtain ⟨T9, hT9, hp9⟩ := hT8.pop
            refine s_perm (((((hp9.cons _).cons _).cons _).cons _).cons _) ?_
            refine s_perm f5 ?_
            refine s_sat drop0 ?_
            refine s_perm f4 ?_
            refine s_sat lst_new ?_
            refine s_nil ?_
            refine x_block ?_
            exact x_loop ⟨slA Ad cd n 1, kd - n, cd - n, ld.drop n, 258, 0, A9, 0, c9, [], j + nn.toNat + k9, T9⟩ (⟨hd2, by simp [hld], by first | omega | (dsimp only; omega), by dsimp only; omega, by dsimp only; omega, Int.le_refl 0, by dsimp only; omega, rfl, Nat.zero_le _, by dsimp only; omega, hT9⟩) (by first | omega | (dsimp only; omega)) ⟨rfl, rfl, rfl, rfl, rfl, rfl, rfl, trivial⟩ ((((f4).trans f4).trans f4).trans f4)
          · refine c_region ?_
            refine s1 (p_move rfl) rfl rfl rfl ?_
            refine s1 (pb_true (p_gt rfl rfl) (by omega)) rfl rfl rfl ?_
            refine s1 (p_move rfl) rfl rfl rfl ?_
            refine sg1 (p_load m2 Tryz.underlying3 rfl rfl rfl) rfl rfl rfl rfl ?_
            refine sg1 (p_move rfl) rfl rfl rfl rfl ?_
            refine sg1 (pb_false (p_ge rfl rfl) (by omega)) rfl rfl rfl rfl ?_
            refine s1 (p_pickT rfl rfl) rfl rfl rfl ?_
            refine s1 (p_move rfl) rfl rfl rfl ?_
            refine sg1 (p_load m1 Tryz.underlying3 rfl rfl rfl) rfl rfl rfl rfl ?_
            refine sg1 (p_ge rfl rfl) rfl rfl rfl rfl ?_
            refine s1 (p_pickF rfl rfl) rfl rfl rfl ?_
            refine s_nil ?_
            refine x_next ?_
            refine c_if rfl (fun h103 => ?_) (fun h103 => ?_)
            · refine c_perm f4 ?_
              refine c_perm f4 ?_
              refine c_perm f4 ?_
              refine c_perm f4 ?_
              refine c_perm f4 ?_
              obtain ⟨T9_, hT9_, hp9_⟩ := hT3.push (lst (.slice AL2 nl2 cL2) nl2 ws2)
              refine c_perm ((((hp9_.cons _).cons _).cons _).cons _) ?_
              refine c_region ?_
              refine s1 (p_move rfl) rfl rfl rfl ?_
              refine s_step (st_callV (vs := []) (caps := [.pointer (some ⟨gw, 0, none⟩), .pointer (some ⟨gk, 0, none⟩), .pointer (some ⟨gc, 0, none⟩), .pointer (some ⟨gl, 0, none⟩)]) Tryz.func38 nm38 bo38 rfl rfl rfl (clear_spec g gw gk gc gl (j + nn.toNat) known2 (count + 1) AL2 nl2 cL2 (by omega) hT9_)) rfl rfl rfl ?_
              rintro _ _ ⟨rfl, A9, c9, k9, T8, hk9, hT8, rfl⟩
              obtain ⟨T9, hT9, hp9⟩ := hT8.pop
              refine s_perm (((((hp9.cons _).cons _).cons _).cons _).cons _) ?_
              refine s_perm f5 ?_
              refine s_sat drop0 ?_
              refine s_perm f4 ?_
              refine s_sat lst_new ?_
              refine s_nil ?_
              refine x_block ?_
              exact x_loop ⟨slA Ad cd n 1, kd - n, cd - n, ld.drop n, 258, 0, A9, 0, c9, [], j + nn.toNat + k9, T9⟩ (⟨hd2, by simp [hld], by first | omega | (dsimp only; omega), by dsimp only; omega, by dsimp only; omega, Int.le_refl 0, by dsimp only; omega, rfl, Nat.zero_le _, by dsimp only; omega, hT9⟩) (by first | omega | (dsimp only; omega)) ⟨rfl, rfl, rfl, rfl, rfl, rfl, rfl, trivial⟩ ((((f4).trans f4).trans f4).trans f4)
            · refine c_skip ?_
              refine x_block ?_
              exact x_loop ⟨slA Ad cd n 1, kd - n, cd - n, ld.drop n, known2, count + 1, AL2, nl2, cL2, ws2, j + nn.toNat, T3⟩ (⟨hd2, by simp [hld], by first | omega | (dsimp only; omega), by first | omega | (dsimp only; omega), by first | omega | (dsimp only; omega), by first | omega | (dsimp only; omega), by first | omega | (dsimp only; omega), hw2, by first | omega | (dsimp only; omega), by first | omega | (dsimp only; omega), hT3⟩) (by first | omega | (dsimp only; omega)) ⟨rfl, rfl, rfl, rfl, rfl, rfl, rfl, trivial⟩ (((((f4).trans f4).trans f4).trans f4).trans f4)
  · refine c_exit ?_
    refine x_exit_then ?_
    refine x_exit_then ?_
    refine x_exit_here ?_
    refine x_next ?_
    refine c_seq ?_
    refine c_draw 4 ([blk gw [.pointer (some ⟨g, 0, none⟩)] 122, blk gk [.int .i64 known] 3, blk gc [.int .i64 count] 3, blk gl [.slice AL nl cL] 60]) mixed ?_
    refine d_take 0 rfl (p_load m0 Tryz.underlying122 rfl rfl rfl) rfl rfl rfl (by kernel_rfl) (fun _ h => Sat.t4 (Sat.perm ((((f3).trans f3).trans f3).trans f3) h)) ?_
    refine d_take 1 rfl (p_load m1 Tryz.underlying3 rfl rfl rfl) rfl rfl rfl (by kernel_rfl) (fun _ h => Sat.t4 (Sat.perm ((((f3).trans f3).trans f3).trans f3) h)) ?_
    refine d_step 2 rfl (by kernel_rfl) (st_call Tryz.func40 nm40 bo40 rfl (lzwWidth_spec known)) rfl rfl rfl ?_
    rintro _ _ ⟨rfl, nn, rfl, hnn1, hnn2⟩
    refine ⟨fun _ => (fun _ h => Sat.t4 (Sat.perm ((((f3).trans f3).trans f3).trans f3) h)), ?_⟩
    obtain ⟨T1_, hT1_, hp1_⟩ := hT.pushes [blk gw [.pointer (some ⟨g, 0, none⟩)] 122, blk gk [.int .i64 known] 3, blk gc [.int .i64 count] 3, blk gl [.slice AL nl cL] 60, lst (.slice AL nl cL) nl ws]
    refine h_perm hp1_ ?_
    refine d_step 3 rfl (by kernel_rfl) (st_call Tryz.func39 nm39 bo39 rfl (pword_spec g j _ nn (by omega) (by omega) (by omega) hT1_)) rfl rfl rfl ?_
    rintro _ T2 ⟨rfl, hT2⟩
    refine ⟨fun _ => (fun _ h => Sat.t4 (hT2.frame _ h)), ?_⟩
    obtain ⟨T3, hT3, hp3⟩ := hT2.pops [blk gw [.pointer (some ⟨g, 0, none⟩)] 122, blk gk [.int .i64 known] 3, blk gc [.int .i64 count] 3, blk gl [.slice AL nl cL] 60, lst (.slice AL nl cL) nl ws]
    refine h_perm hp3 ?_
    refine d_done (by kernel_rfl) ?_
    refine x_next ?_
    refine c_seq ?_
    obtain ⟨Az, cz, lz, hlz, rfl⟩ := hT3
    refine c_region ?_
    refine s1 (p_load m0 Tryz.underlying122 rfl rfl rfl) rfl rfl rfl ?_
    refine s1 (p_nilCheck rfl) rfl rfl rfl ?_
    refine s1 (p_fieldAddr (fun w => fa124_0 _ w) rfl) rfl rfl rfl ?_
    refine s1 (p_load m5 Tryz.underlying23 rfl rfl rfl) rfl rfl rfl ?_
    refine s1 (p_assign rfl) rfl rfl rfl ?_
    refine s_nil ?_
    refine x_next ?_
    refine c_ret ?_
    refine x_sat (fun _ h => Sat.tail (Sat.tail (Sat.tail (Sat.tail (Sat.tail (Sat.tail (Sat.perm (((((((f6).trans f6).trans f6).trans f6).trans f6).trans f6).trans f6) h))))))) ?_
    exact x_done_one rfl rfl ⟨Az, cz, lz, (j + nn.toNat + 7) / 8, hlz, by omega, by omega, rfl, rfl⟩

/-- A made-up file's shape. -/
structure Tif where
  big : Bool
  wide : Int
  high : Int
  colour : Int
  alpha : Int
  depth : Int
  packing : Int
  ahead : Bool
  tileW : Int
  tileH : Int
  rows : Int
def Tif.cells (t : Tif) : List Value := [.bool t.big, .int .i64 t.wide, .int .i64 t.high, .int .i64 t.colour, .int .i64 t.alpha, .int .i64 t.depth, .int .i64 t.packing, .bool t.ahead, .int .i64 t.tileW, .int .i64 t.tileH, .int .i64 t.rows]
def Tif.val (t : Tif) : Value := .agg t.cells.toArray

set_option maxRecDepth 100000 in
theorem packed_spec {F : List As} (t : Tif) (A : Option Addr) (N c : Nat) (l : List Int) (hl : l.length = N) (hN0 : 1 ≤ N) (hN : N ≤ 1000000) :
    Fun Tryz.prog 22 [t.val, .slice A N c, .int .i64 1] (own (.slice A N c) 5 1 N (by8 l) :: F) (fun u T => ∃ A2 c2 l2, ∃ k : Nat, l2.length = k ∧ 1 ≤ k ∧ k ≤ 9 * N + 500 ∧ u = .slice A2 k c2 ∧ T = own (.slice A2 k c2) 5 1 k (by8 l2) :: F) := by
  refine fun_intro Tryz.func22 rfl Tryz.ntmps22 (Nat.le_of_ble_eq_true rfl) ?_
  refine c_seq ?_
  refine c_region ?_
  refine s_step (st_box rfl) rfl rfl rfl ?_
  rintro _ _ ⟨gt, rfl, rfl⟩
  refine s_perm (T := blk gt t.cells 33 :: own (.slice A N c) 5 1 N (by8 l) :: F) f0 ?_
  refine s1 (p_assign rfl) rfl rfl rfl ?_
  refine s_nil ?_
  refine x_next ?_
  refine c_seq ?_
  refine c_seq ?_
  refine c_region ?_
  refine s1 (p_fieldAddr (fun w => fa33_6 _ w) rfl) rfl rfl rfl ?_
  refine s1 (p_load m0 Tryz.underlying3 rfl rfl rfl) rfl rfl rfl ?_
  refine s_nil ?_
  refine x_next ?_
  refine c_block ?_
  refine c_seq ?_
  refine c_region ?_
  refine s1 (p_eq rfl rfl) rfl rfl rfl ?_
  refine s1 (p_assign rfl) rfl rfl rfl ?_
  refine s_nil ?_
  refine x_next ?_
  refine c_ifb rfl (fun h9 => ?_) (fun h9 => ?_)
  · refine c_seq ?_
    refine c_region ?_
    refine s1 (p_move rfl) rfl rfl rfl ?_
    refine s1 (p_move rfl) rfl rfl rfl ?_
    refine s1 (p_mul rfl rfl (w64 (by omega))) rfl rfl rfl ?_
    refine s_step (st_call Tryz.func27 nm27 bo27 rfl (Coded_spec A N c l hl (by omega) (rd_own m1))) rfl rfl rfl ?_
    rintro _ _ ⟨A2, c2, l2, k2, hl2, hk1, hk2, rfl, rfl⟩
    refine s1 (p_assign rfl) rfl rfl rfl ?_
    refine s_nil ?_
    refine x_next ?_
    refine c_ret ?_
    refine x_ret_block ?_
    refine x_ret_then ?_
    refine x_sat (fun _ h => Sat.tail (Sat.tail (Sat.perm ((f2).trans f2) h))) ?_
    exact x_done_one rfl rfl ⟨A2, c2, l2, k2, hl2, by omega, by omega, rfl, rfl⟩
  · refine c_seq ?_
    refine c_seq ?_
    refine c_region ?_
    refine s1 (p_eq rfl rfl) rfl rfl rfl ?_
    refine s1 (p_assign rfl) rfl rfl rfl ?_
    refine s_nil ?_
    refine x_next ?_
    refine c_ifb rfl (fun h15 => ?_) (fun h15 => ?_)
    · refine c_skip ?_
      refine x_next ?_
      refine c_ifb rfl (fun h15 => ?_) (fun h15 => ?_)
      · refine c_seq ?_
        refine c_region ?_
        refine s1 (p_move rfl) rfl rfl rfl ?_
        refine s1 (p_move rfl) rfl rfl rfl ?_
        refine s1 (p_mul rfl rfl (w64 (by omega))) rfl rfl rfl ?_
        refine s1 (p_add rfl rfl (w64 (by omega))) rfl rfl rfl ?_
        refine s1 (p_move rfl) rfl rfl rfl ?_
        refine s_step (st_call Tryz.func28 nm28 bo28 rfl (Packed_spec A N c l hl 51 1 (by omega) (by omega) (by omega) (rd_own m1))) rfl rfl rfl ?_
        rintro _ _ ⟨A2, c2, l2, k2, hl2, hk1, hk2, rfl, rfl⟩
        refine s1 (p_assign rfl) rfl rfl rfl ?_
        refine s_nil ?_
        refine x_next ?_
        refine c_ret ?_
        refine x_ret_block ?_
        refine x_ret_then ?_
        refine x_sat (fun _ h => Sat.tail (Sat.tail (Sat.perm ((f2).trans f2) h))) ?_
        exact x_done_one rfl rfl ⟨A2, c2, l2, k2, hl2, by omega, by omega, rfl, rfl⟩
      · refine c_seq ?_
        refine c_region ?_
        refine s1 (p_eq rfl rfl) rfl rfl rfl ?_
        refine s1 (p_assign rfl) rfl rfl rfl ?_
        refine s_nil ?_
        refine x_next ?_
        refine c_ifb rfl (fun h24 => ?_) (fun h24 => ?_)
        · refine c_seq ?_
          refine c_region ?_
          refine s1 (p_move rfl) rfl rfl rfl ?_
          refine s1 (p_move rfl) rfl rfl rfl ?_
          refine s1 (p_rem rfl rfl (by omega) (tm (by omega))) rfl rfl rfl ?_
          refine s1 (p_add rfl rfl (w64 (by omega))) rfl rfl rfl ?_
          refine s1 (p_move rfl) rfl rfl rfl ?_
          refine s1 (p_rem rfl rfl (by omega) (tm (by omega))) rfl rfl rfl ?_
          refine s_step (st_call Tryz.func29 nm29 bo29 rfl (Run_spec A N c l hl (by omega) (rd_own m1))) rfl rfl rfl ?_
          rintro _ _ ⟨A2, c2, l2, k2, hl2, hk1, hk2, rfl, rfl⟩
          refine s1 (p_assign rfl) rfl rfl rfl ?_
          refine s_nil ?_
          refine x_next ?_
          refine c_ret ?_
          refine x_ret_block ?_
          refine x_ret_then ?_
          refine x_sat (fun _ h => Sat.tail (Sat.tail (Sat.perm ((f2).trans f2) h))) ?_
          exact x_done_one rfl rfl ⟨A2, c2, l2, k2, hl2, by omega, by omega, rfl, rfl⟩
        · refine c_skip ?_
          refine x_block ?_
          refine x_next ?_
          refine c_seq ?_
          refine c_region ?_
          refine s1 (p_move rfl) rfl rfl rfl ?_
          refine s1 (p_assign rfl) rfl rfl rfl ?_
          refine s_nil ?_
          refine x_next ?_
          refine c_ret ?_
          refine x_sat (fun _ h => Sat.tail (Sat.perm ((f1).trans f1) h)) ?_
          exact x_done_one rfl rfl ⟨A, c, l, N, hl, by omega, by omega, rfl, rfl⟩
    · refine c_region ?_
      refine s1 (p_eq rfl rfl) rfl rfl rfl ?_
      refine s1 (p_assign rfl) rfl rfl rfl ?_
      refine s_nil ?_
      refine x_next ?_
      refine c_ifb rfl (fun h15 => ?_) (fun h15 => ?_)
      · refine c_seq ?_
        refine c_region ?_
        refine s1 (p_move rfl) rfl rfl rfl ?_
        refine s1 (p_move rfl) rfl rfl rfl ?_
        refine s1 (p_mul rfl rfl (w64 (by omega))) rfl rfl rfl ?_
        refine s1 (p_add rfl rfl (w64 (by omega))) rfl rfl rfl ?_
        refine s1 (p_move rfl) rfl rfl rfl ?_
        refine s_step (st_call Tryz.func28 nm28 bo28 rfl (Packed_spec A N c l hl 51 1 (by omega) (by omega) (by omega) (rd_own m1))) rfl rfl rfl ?_
        rintro _ _ ⟨A2, c2, l2, k2, hl2, hk1, hk2, rfl, rfl⟩
        refine s1 (p_assign rfl) rfl rfl rfl ?_
        refine s_nil ?_
        refine x_next ?_
        refine c_ret ?_
        refine x_ret_block ?_
        refine x_ret_then ?_
        refine x_sat (fun _ h => Sat.tail (Sat.tail (Sat.perm ((f2).trans f2) h))) ?_
        exact x_done_one rfl rfl ⟨A2, c2, l2, k2, hl2, by omega, by omega, rfl, rfl⟩
      · refine c_seq ?_
        refine c_region ?_
        refine s1 (p_eq rfl rfl) rfl rfl rfl ?_
        refine s1 (p_assign rfl) rfl rfl rfl ?_
        refine s_nil ?_
        refine x_next ?_
        refine c_ifb rfl (fun h24 => ?_) (fun h24 => ?_)
        · refine c_seq ?_
          refine c_region ?_
          refine s1 (p_move rfl) rfl rfl rfl ?_
          refine s1 (p_move rfl) rfl rfl rfl ?_
          refine s1 (p_rem rfl rfl (by omega) (tm (by omega))) rfl rfl rfl ?_
          refine s1 (p_add rfl rfl (w64 (by omega))) rfl rfl rfl ?_
          refine s1 (p_move rfl) rfl rfl rfl ?_
          refine s1 (p_rem rfl rfl (by omega) (tm (by omega))) rfl rfl rfl ?_
          refine s_step (st_call Tryz.func29 nm29 bo29 rfl (Run_spec A N c l hl (by omega) (rd_own m1))) rfl rfl rfl ?_
          rintro _ _ ⟨A2, c2, l2, k2, hl2, hk1, hk2, rfl, rfl⟩
          refine s1 (p_assign rfl) rfl rfl rfl ?_
          refine s_nil ?_
          refine x_next ?_
          refine c_ret ?_
          refine x_ret_block ?_
          refine x_ret_then ?_
          refine x_sat (fun _ h => Sat.tail (Sat.tail (Sat.perm ((f2).trans f2) h))) ?_
          exact x_done_one rfl rfl ⟨A2, c2, l2, k2, hl2, by omega, by omega, rfl, rfl⟩
        · refine c_skip ?_
          refine x_block ?_
          refine x_next ?_
          refine c_seq ?_
          refine c_region ?_
          refine s1 (p_move rfl) rfl rfl rfl ?_
          refine s1 (p_assign rfl) rfl rfl rfl ?_
          refine s_nil ?_
          refine x_next ?_
          refine c_ret ?_
          refine x_sat (fun _ h => Sat.tail (Sat.perm ((f1).trans f1) h)) ?_
          exact x_done_one rfl rfl ⟨A, c, l, N, hl, by omega, by omega, rfl, rfl⟩

end V
end Go.Proofs.YtaflcjoagfnhfaaGreatDoor
