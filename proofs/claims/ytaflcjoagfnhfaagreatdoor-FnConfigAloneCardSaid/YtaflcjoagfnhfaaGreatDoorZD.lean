/- A walk: the law. -/
import Derived.Test.YtaflcjoagfnhfaaGreatDoorZC
namespace Go.Proofs.YtaflcjoagfnhfaaGreatDoor
namespace V
open Go Go.Proofs

set_option maxHeartbeats 4000000 in
set_option maxRecDepth 100000 in
theorem law_spec {F : List As} (f w0 h0 at_ by_ : Int) (hf : 0 ≤ f ∧ f ≤ 4294967295) (hw : 0 ≤ w0 ∧ w0 ≤ 255) (hh : 0 ≤ h0 ∧ h0 ≤ 255) (hat : 0 ≤ at_ ∧ at_ ≤ 4294967295) (A : Option Addr) (N c : Nat) (l : List Int) (hl : l.length = N) (hby : ∀ x ∈ l, 0 ≤ x ∧ x ≤ 255) (hr : ∀ w, Sat w F → Reads w (.slice A N c) 1 N (by8 l)) (hlen : ∀ w, Sat w F → ∀ o u, lens[o]? = some u → w.cell? ⟨5, o, none⟩ = some u) :
    Fun Tryz.prog 3 [.int .u32 f, .int .u8 w0, .int .u8 h0, .slice A N c, .int .u32 at_, .int .u8 by_] (F) (fun u T => u = .bool true ∧ ∃ X, T = X ++ F) := by
  refine fun_intro Tryz.func3 rfl Tryz.ntmps3 (Nat.le_of_ble_eq_true rfl) ?_
  refine c_seq ?_
  refine c_region ?_
  refine s1 (p_assign rfl) rfl rfl rfl ?_
  refine s_nil ?_
  refine x_next ?_
  refine c_seq ?_
  refine c_seq ?_
  refine c_region ?_
  refine s1 (p_move rfl) rfl rfl rfl ?_
  refine s1 (p_len Tryz.underlying23 rfl) rfl rfl rfl ?_
  refine s1 (p_gt rfl rfl) rfl rfl rfl ?_
  refine s_nil ?_
  refine x_next ?_
  refine c_if rfl (fun h32 => ?_) (fun h32 => ?_)
  · refine c_seq ?_
    refine c_region ?_
    refine s1 (p_assign rfl) rfl rfl rfl ?_
    refine s_nil ?_
    refine x_next ?_
    refine c_ret ?_
    refine x_ret_then ?_
    exact x_done_one rfl rfl ⟨rfl, [], rfl⟩
  · refine c_skip ?_
    refine x_next ?_
    refine c_seq ?_
    refine c_seq ?_
    rcases (show (N : Int) ≤ 2000 ∨ ¬ (N : Int) ≤ 2000 from by omega) with hq | hq
    · refine c_region ?_
      refine s1 (p_move rfl) rfl rfl rfl ?_
      refine s_step (st_call Tryz.func4 nm4 bo4 rfl (few_spec A N c l hl)) rfl rfl rfl ?_
      rintro _ T1 ⟨rfl, hW⟩
      subst T1
      refine s1 (pv (p_not rfl) (congrArg (fun b => Value.bool (!b)) (decide_eq_true hq))) rfl rfl rfl ?_
      refine s_nil ?_
      refine x_next ?_
      refine c_false rfl ?_
      refine c_skip ?_
      refine x_next ?_
      refine c_seq ?_
      refine c_region ?_
      refine s1 (p_move rfl) rfl rfl rfl ?_
      refine s1 (p_move rfl) rfl rfl rfl ?_
      refine s1 (p_move rfl) rfl rfl rfl ?_
      refine s1 (p_move rfl) rfl rfl rfl ?_
      refine s_step (st_call Tryz.func5 nm5 bo5 rfl (fileOf_spec f w0 h0 hf hw hh A N c l hl (by omega) hby hr)) rfl rfl rfl ?_
      rintro _ _ ⟨B, n, cb, b, rfl, hbl, hbn, hlaid, rfl⟩
      have hok := shp_ok hf hw hh
      obtain ⟨t, ht⟩ : ∃ t, t = shp f w0 h0 := ⟨_, rfl⟩
      rw [← ht] at hok hlaid
      have hb9 := hlaid.len
      have hin := shadesL_in hby
      have hpl0 : (palOf t (shadesL l)).length ≤ 256 := by
        unfold palOf
        split
        · rw [shadesL_length]; exact Nat.le_refl _
        · exact Nat.zero_le _
      have hlaid2 := hlaid
      obtain ⟨rest, z, pl, sz, tail, ps, hfile, hR1, hR2, hdir⟩ := hlaid2
      obtain ⟨R, hR⟩ : ∃ R, rest.length = R := ⟨_, rfl⟩
      rw [hR] at hfile hR1 hR2 hdir
      refine s1 (p_assign rfl) rfl rfl rfl ?_
      refine s_nil ?_
      refine x_next ?_
      refine c_seq ?_
      refine c_region ?_
      refine s1 (p_move rfl) rfl rfl rfl ?_
      refine s_step (st_call Tryz.func6 nm6 bo6 rfl (config_spec t hok (shadesL l) (shadesL_length l) hin B n cb b hbl (by omega) hlaid (rd_own m0) (fun w h => hlen w h.tail))) rfl rfl rfl ?_
      rintro _ _ ⟨QA, qc, rfl, rfl⟩
      refine s1 (p_move rfl) rfl rfl rfl ?_
      refine s1 (p_extract rfl rfl) rfl rfl rfl ?_
      refine s1 (p_extract rfl rfl) rfl rfl rfl ?_
      refine s1 (p_extract rfl rfl) rfl rfl rfl ?_
      refine s1 (p_extract rfl rfl) rfl rfl rfl ?_
      refine s1 (p_extract rfl rfl) rfl rfl rfl ?_
      refine s1 (p_assign rfl) rfl rfl rfl ?_
      refine s1 (p_assign rfl) rfl rfl rfl ?_
      refine s1 (p_assign rfl) rfl rfl rfl ?_
      refine s1 (p_assign rfl) rfl rfl rfl ?_
      refine s1 (p_assign rfl) rfl rfl rfl ?_
      refine s_nil ?_
      refine x_next ?_
      refine c_seq ?_
      refine c_region ?_
      refine s1 (p_move rfl) rfl rfl rfl ?_
      refine s_step (st_call Tryz.func7 nm7 bo7 rfl (directory_spec t.big (8 + R) (by omega) B n cb b hbl (by omega) (by rw [hfile]; exact head0 _ _ _) (fun k hk => by rw [hfile]; exact head4 _ _ _ hk) (rd_own m1))) rfl rfl rfl ?_
      rintro _ _ ⟨rfl, rfl⟩
      refine s1 (p_assign rfl) rfl rfl rfl ?_
      refine s_nil ?_
      refine x_next ?_
      refine c_seq ?_
      refine c_seq ?_
      refine c_region ?_
      refine s1 (p_move rfl) rfl rfl rfl ?_
      refine s1 (pb_false (p_le rfl rfl) (by omega)) rfl rfl rfl ?_
      refine s_nil ?_
      refine x_next ?_
      refine c_false rfl ?_
      refine c_skip ?_
      refine x_next ?_
      refine c_seq ?_
      obtain ⟨a, ha, ha2⟩ := modN (x := at_) (N := R) (by omega) (by omega)
      have hbn2 : 8 + R < n := by
        have h3 : b.length = 8 + (R + z.length) := by rw [hfile, List.length_append, hd8_length, List.length_append, hR]
        have h4 : 2 ≤ z.length := by rw [hdir.eq, List.length_append, num_length]; omega
        omega
      refine c_region ?_
      refine s1 (p_move rfl) rfl rfl rfl ?_
      refine s1 (p_move rfl) rfl rfl rfl ?_
      refine s1 (p_move rfl) rfl rfl rfl ?_
      refine s1 (p_sub rfl rfl ((w64 (by omega)).trans (show ((8 + R : Nat) : Int) - 8 = (R : Int) by omega))) rfl rfl rfl ?_
      refine s1 (p_conv Tryz.underlying3 Tryz.underlying22 rfl (wu32 (by omega))) rfl rfl rfl ?_
      refine s1 (p_rem rfl rfl (by omega) ((tm (by omega)).trans ha)) rfl rfl rfl ?_
      refine s1 (p_conv Tryz.underlying22 Tryz.underlying3 rfl (w64 (by omega))) rfl rfl rfl ?_
      refine s1 (p_add rfl rfl ((w64 (by omega)).trans (show 8 + (a : Int) = ((8 + a : Nat) : Int) by omega))) rfl rfl rfl ?_
      refine s1 (p_index (kk := 8 + a) Tryz.underlying23 sz5 rfl rfl (rd_own m1) (by omega) (by omega) (by omega)) rfl rfl rfl ?_
      refine s1 (p_loadE Tryz.underlying5 rfl rfl (rd_own m1) (by8_get (by omega))) rfl rfl rfl ?_
      refine s1 (p_move rfl) rfl rfl rfl ?_
      refine s1 (p_xor rfl rfl rfl) rfl rfl rfl ?_
      refine s1 (p_index (kk := 8 + a) Tryz.underlying23 sz5 rfl rfl (rd_own m1) (by omega) (by omega) (by omega)) rfl rfl rfl ?_
      refine s_perm f1 ?_
      refine s_step0 (st_storeE rfl rfl rfl sz5 (by omega)) rfl rfl ?_
      rintro _ _ rfl
      rw [by8_set]
      obtain ⟨b2, hb2⟩ : ∃ x, x = b.set (8 + a) (bXor .u8 (b.getD (8 + a) 0) by_) := ⟨_, rfl⟩
      rw [← hb2]
      have hbl2 : b2.length = n := by rw [hb2, List.length_set]; exact hbl
      have hlaid3 : Laid t (shadesL l) b2 := by
        have hla : (rest.set a (bXor .u8 (b.getD (8 + a) 0) by_)).length = R := by rw [List.length_set]; exact hR
        refine ⟨rest.set a (bXor .u8 (b.getD (8 + a) 0) by_), z, pl, sz, tail, ps, ?_, by rw [hla]; omega, by rw [hla]; omega, by rw [hla]; exact hdir⟩
        rw [hla, hb2]
        conv => lhs; rw [hfile]
        rw [set_mid (hd8_length _ _) (by omega), hfile]
      refine s_nil ?_
      refine x_next ?_
      refine c_seq ?_
      refine c_region ?_
      refine s1 (p_move rfl) rfl rfl rfl ?_
      refine s_step (st_call Tryz.func6 nm6 bo6 rfl (config_spec t hok (shadesL l) (shadesL_length l) hin B n cb b2 hbl2 (by omega) hlaid3 (rd_own m0) (fun w h => hlen w h.tail.tail))) rfl rfl rfl ?_
      rintro _ _ ⟨QB, qd, rfl, rfl⟩
      refine s1 (p_move rfl) rfl rfl rfl ?_
      refine s1 (p_extract rfl rfl) rfl rfl rfl ?_
      refine s1 (p_extract rfl rfl) rfl rfl rfl ?_
      refine s1 (p_extract rfl rfl) rfl rfl rfl ?_
      refine s1 (p_extract rfl rfl) rfl rfl rfl ?_
      refine s1 (p_extract rfl rfl) rfl rfl rfl ?_
      refine s1 (p_assign rfl) rfl rfl rfl ?_
      refine s1 (p_assign rfl) rfl rfl rfl ?_
      refine s1 (p_assign rfl) rfl rfl rfl ?_
      refine s1 (p_assign rfl) rfl rfl rfl ?_
      refine s1 (p_assign rfl) rfl rfl rfl ?_
      refine s_nil ?_
      refine x_next ?_
      refine c_seq ?_
      refine c_seq ?_
      refine c_region ?_
      refine s1 (p_move rfl) rfl rfl rfl ?_
      refine s1 (pb_false (p_ne rfl rfl) (by omega)) rfl rfl rfl ?_
      refine s1 (p_move rfl) rfl rfl rfl ?_
      refine sg1 (p_move rfl) rfl rfl rfl rfl ?_
      refine sg1 (pb_false (p_ne rfl rfl) (by omega)) rfl rfl rfl rfl ?_
      refine s1 (p_pickF rfl rfl) rfl rfl rfl ?_
      refine s1 (p_move rfl) rfl rfl rfl ?_
      refine sg1 (p_move rfl) rfl rfl rfl rfl ?_
      refine sg1 (p_move rfl) rfl rfl rfl rfl ?_
      refine sg1 (pb_false (p_ne rfl rfl) (by omega)) rfl rfl rfl rfl ?_
      refine s1 (p_pickF rfl rfl) rfl rfl rfl ?_
      refine s1 (p_move rfl) rfl rfl rfl ?_
      refine sg1 (p_move rfl) rfl rfl rfl rfl ?_
      refine sg1 (p_move rfl) rfl rfl rfl rfl ?_
      refine sg1 (pb_false (p_ne rfl rfl) (by omega)) rfl rfl rfl rfl ?_
      refine s1 (p_pickF rfl rfl) rfl rfl rfl ?_
      refine s1 (p_move rfl) rfl rfl rfl ?_
      refine sg1 (p_move rfl) rfl rfl rfl rfl ?_
      refine sg1 (p_move rfl) rfl rfl rfl rfl ?_
      refine sg1 (pb_false (p_ne rfl rfl) (by omega)) rfl rfl rfl rfl ?_
      refine s1 (p_pickF rfl rfl) rfl rfl rfl ?_
      refine s1 (p_move rfl) rfl rfl rfl ?_
      refine sg1 (p_move rfl) rfl rfl rfl rfl ?_
      refine sg1 (p_len Tryz.underlying26 rfl) rfl rfl rfl rfl ?_
      refine sg1 (p_move rfl) rfl rfl rfl rfl ?_
      refine sg1 (p_len Tryz.underlying26 rfl) rfl rfl rfl rfl ?_
      refine sg1 (pb_false (p_ne rfl rfl) (by omega)) rfl rfl rfl rfl ?_
      refine s1 (p_pickF rfl rfl) rfl rfl rfl ?_
      refine s_nil ?_
      refine x_next ?_
      refine c_false rfl ?_
      refine c_skip ?_
      refine x_next ?_
      refine c_seq ?_
      refine c_seq ?_
      refine c_region ?_
      refine s1 (p_move rfl) rfl rfl rfl ?_
      refine s1 (p_len Tryz.underlying26 rfl) rfl rfl rfl ?_
      refine s1 (p_move rfl) rfl rfl rfl ?_
      refine s_nil ?_
      refine x_next ?_
      refine c_block ?_
      refine c_loop (α := (Nat)) (fun gg => gg ≤ (palOf t (shadesL l)).length) (fun gg => (palOf t (shadesL l)).length - gg) (fun gg => [(0, .int .u32 f), (1, .int .u8 w0), (2, .int .u8 h0), (3, .slice A N c), (14, .int .i64 t.kindOf), (15, .int .i64 t.wide), (16, .int .i64 t.high), (17, .slice QA (palOf t (shadesL l)).length qc), (23, .slice QB (palOf t (shadesL l)).length qd), (103, .int .i64 ((palOf t (shadesL l)).length : Int)), (104, .int .i64 (gg : Int))]) (fun gg => own (.slice QB (palOf t (shadesL l)).length qd) 31 4 (palOf t (shadesL l)).length ((palOf t (shadesL l)).flatMap p4) :: own (.slice B n cb) 5 1 n (by8 b2) :: own (.slice QA (palOf t (shadesL l)).length qc) 31 4 (palOf t (shadesL l)).length ((palOf t (shadesL l)).flatMap p4) :: F) 0 (Nat.zero_le _) ⟨rfl, rfl, rfl, rfl, rfl, rfl, rfl, rfl, rfl, rfl, rfl, trivial⟩ (((f2).trans f2).trans f2) ?_
      rintro j hI
      replace hI : j ≤ (palOf t (shadesL l)).length := hI
      have hj := hI
      refine c_sub (L' := [(0, .int .u32 f), (1, .int .u8 w0), (2, .int .u8 h0), (3, .slice A N c), (14, .int .i64 t.kindOf), (15, .int .i64 t.wide), (16, .int .i64 t.high), (17, .slice QA (palOf t (shadesL l)).length qc), (23, .slice QB (palOf t (shadesL l)).length qd), (103, .int .i64 ((palOf t (shadesL l)).length : Int)), (104, .int .i64 (j : Int))]) ⟨rfl, rfl, rfl, rfl, rfl, rfl, rfl, rfl, rfl, rfl, rfl, trivial⟩ ?_
      refine c_perm (T := own (.slice QB (palOf t (shadesL l)).length qd) 31 4 (palOf t (shadesL l)).length ((palOf t (shadesL l)).flatMap p4) :: own (.slice B n cb) 5 1 n (by8 b2) :: own (.slice QA (palOf t (shadesL l)).length qc) 31 4 (palOf t (shadesL l)).length ((palOf t (shadesL l)).flatMap p4) :: F) f0 ?_
      refine c_seq ?_
      refine c_region ?_
      refine s1 (p_lt rfl rfl) rfl rfl rfl ?_
      refine s_nil ?_
      refine x_next ?_
      refine c_seq ?_
      refine c_if rfl (fun h105 => ?_) (fun h105 => ?_)
      · refine c_skip ?_
        refine x_next ?_
        refine c_seq ?_
        refine c_block ?_
        refine c_seq ?_
        refine c_region ?_
        refine s1 (p_move rfl) rfl rfl rfl ?_
        refine s1 (p_assign rfl) rfl rfl rfl ?_
        refine s_nil ?_
        refine x_next ?_
        refine c_seq ?_
        obtain ⟨x, hx⟩ : ∃ x, (palOf t (shadesL l))[j]? = some x := ⟨_, List.getElem?_eq_getElem (by omega)⟩
        refine c_draw 9 (own (.slice QB (palOf t (shadesL l)).length qd) 31 4 (palOf t (shadesL l)).length ((palOf t (shadesL l)).flatMap p4) :: own (.slice B n cb) 5 1 n (by8 b2) :: own (.slice QA (palOf t (shadesL l)).length qc) 31 4 (palOf t (shadesL l)).length ((palOf t (shadesL l)).flatMap p4) :: F) mixed ?_
        refine d_take 0 rfl (p_move rfl) rfl rfl rfl (by kernel_rfl) (fun _ h => h) ?_
        refine d_take 1 rfl (p_move rfl) rfl rfl rfl (by kernel_rfl) (fun _ h => h) ?_
        refine d_take 2 rfl (p_index (kk := j * 4) Tryz.underlying26 sz31 rfl rfl (rd_own m2) (by omega) (by omega) (by omega)) rfl rfl rfl (by kernel_rfl) (fun _ h => h) ?_
        refine d_take 3 rfl (p_loadEA (cs := p4 x) Tryz.underlying31 rfl sz31 rfl (rd_own m2) rfl (by omega) (fun j u hu => flat_get (f := p4) (q := 4) (fun _ => rfl) hx hu)) rfl rfl rfl (by kernel_rfl) (fun _ h => h) ?_
        refine d_take 4 rfl (p_move rfl) rfl rfl rfl (by kernel_rfl) (fun _ h => h) ?_
        refine d_take 5 rfl (p_move rfl) rfl rfl rfl (by kernel_rfl) (fun _ h => h) ?_
        refine d_take 6 rfl (p_index (kk := j * 4) Tryz.underlying26 sz31 rfl rfl (rd_own m0) (by omega) (by omega) (by omega)) rfl rfl rfl (by kernel_rfl) (fun _ h => h) ?_
        refine d_take 7 rfl (p_loadEA (cs := p4 x) Tryz.underlying31 rfl sz31 rfl (rd_own m0) rfl (by omega) (fun j u hu => flat_get (f := p4) (q := 4) (fun _ => rfl) hx hu)) rfl rfl rfl (by kernel_rfl) (fun _ h => h) ?_
        refine d_take 8 rfl (p_neAgg ft31 fp31 fc31 fg31 (hc31 x) rfl rfl) rfl rfl rfl (by kernel_rfl) (fun _ h => h) ?_
        refine d_done (by kernel_rfl) ?_
        refine x_next ?_
        refine c_false rfl ?_
        refine c_skip ?_
        refine x_block ?_
        refine x_next ?_
        refine c_region ?_
        refine s1 (p_add rfl rfl (w64 (by omega))) rfl rfl rfl ?_
        refine s1 (p_move rfl) rfl rfl rfl ?_
        refine s_nil ?_
        exact x_loop (j + 1) (by omega) (by omega) ⟨rfl, rfl, rfl, rfl, rfl, rfl, rfl, rfl, rfl, rfl, rfl, trivial⟩ (((f2).trans f2).trans f2)
      · refine c_exit ?_
        refine x_exit_then ?_
        refine x_exit_then ?_
        refine x_exit_here ?_
        refine x_next ?_
        refine c_seq ?_
        refine c_region ?_
        refine s1 (p_move rfl) rfl rfl rfl ?_
        refine s1 (p_move rfl) rfl rfl rfl ?_
        refine s1 (p_move rfl) rfl rfl rfl ?_
        refine s_step (st_call Tryz.func8 nm8 bo8 rfl (shapeOf_spec f w0 h0 hf hw hh)) rfl rfl rfl ?_
        rintro _ _ ⟨rfl, ja, jb, rfl⟩
        refine s_step (st_alloc ze33) rfl rfl rfl ?_
        rintro _ _ ⟨gt, rfl, rfl⟩
        refine s_step0 (st_storeA rfl rfl rfl sz33 rfl) rfl rfl ?_
        rintro _ _ rfl
        refine s_perm (T := blk gt (shp f w0 h0).cells 33 :: _) f0 ?_
        rw [← ht]
        refine s_nil ?_
        refine x_next ?_
        refine c_seq ?_
        refine c_seq ?_
        refine c_region ?_
        refine s1 (p_fieldAddr (fun w => fa33_3 _ w) rfl) rfl rfl rfl ?_
        refine s1 (p_load m0 Tryz.underlying3 rfl rfl rfl) rfl rfl rfl ?_
        refine s1 (p_eq rfl rfl) rfl rfl rfl ?_
        refine s_nil ?_
        refine x_next ?_
        refine c_if rfl (fun h123 => ?_) (fun h123 => ?_)
        · refine c_seq ?_
          have hpo : palOf t (shadesL l) = shadesL l := by unfold palOf; rw [if_pos h123]
          have hpl : (palOf t (shadesL l)).length = 256 := by rw [hpo]; exact shadesL_length l
          refine c_region ?_
          refine s1 (p_move rfl) rfl rfl rfl ?_
          refine s_step (st_call Tryz.func9 nm9 bo9 rfl (shades_spec A N c l hl (by omega) hby (fun w h => hr w h.tail.tail.tail.tail.tail.tail))) rfl rfl rfl ?_
          rintro _ _ ⟨sB, sc, rfl, rfl⟩
          refine s1 (p_assign rfl) rfl rfl rfl ?_
          refine s_nil ?_
          refine x_next ?_
          refine c_seq ?_
          refine c_region ?_
          refine s1 (p_move rfl) rfl rfl rfl ?_
          refine s_step (st_call Tryz.func10 nm10 bo10 rfl (dots_spec QA _ qc (palOf t (shadesL l)) rfl (by omega) (by rw [hpo]; exact hin) (rd_own m6))) rfl rfl rfl ?_
          rintro _ _ ⟨dB, dc, rfl, rfl⟩
          refine s1 (p_assign rfl) rfl rfl rfl ?_
          refine s_nil ?_
          refine x_next ?_
          refine c_seq ?_
          refine c_seq ?_
          refine c_region ?_
          refine s1 (p_move rfl) rfl rfl rfl ?_
          refine s1 (p_len Tryz.underlying35 rfl) rfl rfl rfl ?_
          refine s1 (p_move rfl) rfl rfl rfl ?_
          refine s1 (p_len Tryz.underlying35 rfl) rfl rfl rfl ?_
          refine s1 (pb_false (p_ne rfl rfl) (by omega)) rfl rfl rfl ?_
          refine s_nil ?_
          refine x_next ?_
          refine c_false rfl ?_
          refine c_skip ?_
          refine x_next ?_
          refine c_seq ?_
          refine c_region ?_
          refine s1 (p_move rfl) rfl rfl rfl ?_
          refine s1 (p_len Tryz.underlying35 rfl) rfl rfl rfl ?_
          refine s1 (p_move rfl) rfl rfl rfl ?_
          refine s_nil ?_
          refine x_next ?_
          refine c_block ?_
          refine c_loop (α := (Nat)) (fun gg => gg ≤ 256) (fun gg => 256 - gg) (fun gg => [(0, .int .u32 f), (1, .int .u8 w0), (2, .int .u8 h0), (3, .slice A N c), (14, .int .i64 t.kindOf), (15, .int .i64 t.wide), (16, .int .i64 t.high), (17, .slice QA (palOf t (shadesL l)).length qc), (26, .pointer (some ⟨gt, 0, none⟩)), (27, .slice sB 256 sc), (28, .slice dB (palOf t (shadesL l)).length dc), (134, .int .i64 256), (135, .int .i64 (gg : Int))]) (fun gg => own (.slice dB (palOf t (shadesL l)).length dc) 39 4 (palOf t (shadesL l)).length ((palOf t (shadesL l)).flatMap c4) :: own (.slice sB 256 sc) 39 4 256 ((shadesL l).flatMap c4) :: blk gt t.cells 33 :: ja :: jb :: own (.slice QB (palOf t (shadesL l)).length qd) 31 4 (palOf t (shadesL l)).length ((palOf t (shadesL l)).flatMap p4) :: own (.slice B n cb) 5 1 n (by8 b2) :: own (.slice QA (palOf t (shadesL l)).length qc) 31 4 (palOf t (shadesL l)).length ((palOf t (shadesL l)).flatMap p4) :: F) 0 (Nat.zero_le _) ⟨rfl, rfl, rfl, rfl, rfl, rfl, rfl, rfl, rfl, rfl, rfl, rfl, rfl, trivial⟩ ((((((((f7).trans f7).trans f7).trans f7).trans f7).trans f7).trans f7).trans f7) ?_
          rintro j hI
          replace hI : j ≤ 256 := hI
          have hj := hI
          refine c_sub (L' := [(0, .int .u32 f), (1, .int .u8 w0), (2, .int .u8 h0), (3, .slice A N c), (14, .int .i64 t.kindOf), (15, .int .i64 t.wide), (16, .int .i64 t.high), (17, .slice QA (palOf t (shadesL l)).length qc), (26, .pointer (some ⟨gt, 0, none⟩)), (27, .slice sB 256 sc), (28, .slice dB (palOf t (shadesL l)).length dc), (134, .int .i64 256), (135, .int .i64 (j : Int))]) ⟨rfl, rfl, rfl, rfl, rfl, rfl, rfl, rfl, rfl, rfl, rfl, rfl, rfl, trivial⟩ ?_
          refine c_perm (T := own (.slice dB (palOf t (shadesL l)).length dc) 39 4 (palOf t (shadesL l)).length ((palOf t (shadesL l)).flatMap c4) :: own (.slice sB 256 sc) 39 4 256 ((shadesL l).flatMap c4) :: blk gt t.cells 33 :: ja :: jb :: own (.slice QB (palOf t (shadesL l)).length qd) 31 4 (palOf t (shadesL l)).length ((palOf t (shadesL l)).flatMap p4) :: own (.slice B n cb) 5 1 n (by8 b2) :: own (.slice QA (palOf t (shadesL l)).length qc) 31 4 (palOf t (shadesL l)).length ((palOf t (shadesL l)).flatMap p4) :: F) f0 ?_
          refine c_seq ?_
          refine c_region ?_
          refine s1 (p_lt rfl rfl) rfl rfl rfl ?_
          refine s_nil ?_
          refine x_next ?_
          refine c_seq ?_
          refine c_if rfl (fun h136 => ?_) (fun h136 => ?_)
          · refine c_skip ?_
            refine x_next ?_
            refine c_seq ?_
            refine c_block ?_
            refine c_seq ?_
            refine c_region ?_
            refine s1 (p_move rfl) rfl rfl rfl ?_
            refine s1 (p_assign rfl) rfl rfl rfl ?_
            refine s_nil ?_
            refine x_next ?_
            refine c_seq ?_
            obtain ⟨x, hx⟩ : ∃ x, (shadesL l)[j]? = some x := ⟨_, List.getElem?_eq_getElem (by rw [shadesL_length]; omega)⟩
            have hx2 : (palOf t (shadesL l))[j]? = some x := by rw [hpo]; exact hx
            refine c_draw 9 (own (.slice dB (palOf t (shadesL l)).length dc) 39 4 (palOf t (shadesL l)).length ((palOf t (shadesL l)).flatMap c4) :: own (.slice sB 256 sc) 39 4 256 ((shadesL l).flatMap c4) :: blk gt t.cells 33 :: ja :: jb :: own (.slice QB (palOf t (shadesL l)).length qd) 31 4 (palOf t (shadesL l)).length ((palOf t (shadesL l)).flatMap p4) :: own (.slice B n cb) 5 1 n (by8 b2) :: own (.slice QA (palOf t (shadesL l)).length qc) 31 4 (palOf t (shadesL l)).length ((palOf t (shadesL l)).flatMap p4) :: F) mixed ?_
            refine d_take 0 rfl (p_move rfl) rfl rfl rfl (by kernel_rfl) (fun _ h => h) ?_
            refine d_take 1 rfl (p_move rfl) rfl rfl rfl (by kernel_rfl) (fun _ h => h) ?_
            refine d_take 2 rfl (p_index (kk := j * 4) Tryz.underlying35 sz39 rfl rfl (rd_own m0) (by omega) (by omega) (by omega)) rfl rfl rfl (by kernel_rfl) (fun _ h => h) ?_
            refine d_take 3 rfl (p_loadEA (cs := c4 x) Tryz.underlying39 rfl sz39 rfl (rd_own m0) rfl (by omega) (fun j u hu => flat_get (f := c4) (q := 4) (fun _ => rfl) hx2 hu)) rfl rfl rfl (by kernel_rfl) (fun _ h => h) ?_
            refine d_take 4 rfl (p_move rfl) rfl rfl rfl (by kernel_rfl) (fun _ h => h) ?_
            refine d_take 5 rfl (p_move rfl) rfl rfl rfl (by kernel_rfl) (fun _ h => h) ?_
            refine d_take 6 rfl (p_index (kk := j * 4) Tryz.underlying35 sz39 rfl rfl (rd_own m1) (by omega) (by omega) (by omega)) rfl rfl rfl (by kernel_rfl) (fun _ h => h) ?_
            refine d_take 7 rfl (p_loadEA (cs := c4 x) Tryz.underlying39 rfl sz39 rfl (rd_own m1) rfl (by omega) (fun j u hu => flat_get (f := c4) (q := 4) (fun _ => rfl) hx hu)) rfl rfl rfl (by kernel_rfl) (fun _ h => h) ?_
            refine d_take 8 rfl (p_neAgg ft39 fp39 fc39 fg39 (hc39 x) rfl rfl) rfl rfl rfl (by kernel_rfl) (fun _ h => h) ?_
            refine d_done (by kernel_rfl) ?_
            refine x_next ?_
            refine c_false rfl ?_
            refine c_skip ?_
            refine x_block ?_
            refine x_next ?_
            refine c_region ?_
            refine s1 (p_add rfl rfl (w64 (by omega))) rfl rfl rfl ?_
            refine s1 (p_move rfl) rfl rfl rfl ?_
            refine s_nil ?_
            exact x_loop (j + 1) (by omega) (by omega) ⟨rfl, rfl, rfl, rfl, rfl, rfl, rfl, rfl, rfl, rfl, rfl, rfl, rfl, trivial⟩ ((((((((f7).trans f7).trans f7).trans f7).trans f7).trans f7).trans f7).trans f7)
          · refine c_exit ?_
            refine x_exit_then ?_
            refine x_exit_then ?_
            refine x_exit_here ?_
            refine x_next ?_
            refine c_seq ?_
            refine c_region ?_
            refine s1 (p_move rfl) rfl rfl rfl ?_
            refine s1 (p_fieldAddr (fun w => fa33_1 _ w) rfl) rfl rfl rfl ?_
            refine s1 (p_load m2 Tryz.underlying3 rfl rfl rfl) rfl rfl rfl ?_
            refine s1 (pb_true (p_eq rfl rfl) (by omega)) rfl rfl rfl ?_
            refine s1 (p_move rfl) rfl rfl rfl ?_
            refine sg1 (p_move rfl) rfl rfl rfl rfl ?_
            refine sg1 (p_fieldAddr (fun w => fa33_2 _ w) rfl) rfl rfl rfl rfl ?_
            refine sg1 (p_load m2 Tryz.underlying3 rfl rfl rfl) rfl rfl rfl rfl ?_
            refine sg1 (pb_true (p_eq rfl rfl) (by omega)) rfl rfl rfl rfl ?_
            refine s1 (p_pickT rfl rfl) rfl rfl rfl ?_
            refine s1 (p_move rfl) rfl rfl rfl ?_
            refine sg1 (p_move rfl) rfl rfl rfl rfl ?_
            refine sg1 (p_loadA m2 Tryz.underlying33 rfl sz33 rfl) rfl rfl rfl rfl ?_
            refine sg_step (st_call Tryz.func11 nm11 bo11 rfl (kindOf_spec t hok.d3)) rfl rfl rfl rfl ?_
            rintro _ _ ⟨rfl, rfl⟩
            refine sg1 (pb_true (p_eq rfl rfl) (by omega)) rfl rfl rfl rfl ?_
            refine s1 (p_pickT rfl rfl) rfl rfl rfl ?_
            refine s1 (p_move rfl) rfl rfl rfl ?_
            refine sg1 (p_fieldAddr (fun w => fa33_3 _ w) rfl) rfl rfl rfl rfl ?_
            refine sg1 (p_load m2 Tryz.underlying3 rfl rfl rfl) rfl rfl rfl rfl ?_
            refine sg1 (pb_true (p_eq rfl rfl) (by omega)) rfl rfl rfl rfl ?_
            refine sg1 (p_move rfl) rfl rfl rfl rfl ?_
            refine s_skip rfl rfl rfl rfl rfl ?_
            refine s_skip rfl rfl rfl rfl rfl ?_
            refine s_skip rfl rfl rfl rfl rfl ?_
            refine sg1 (p_pickT rfl rfl) rfl rfl rfl rfl ?_
            refine s1 (p_pickT rfl rfl) rfl rfl rfl ?_
            refine s1 (p_assign rfl) rfl rfl rfl ?_
            refine s_nil ?_
            refine x_next ?_
            refine c_ret ?_
            exact x_done_one rfl rfl ⟨rfl, [_, _, _, _, _, _, _, _], rfl⟩
        · refine c_skip ?_
          refine x_next ?_
          refine c_seq ?_
          refine c_region ?_
          refine s1 (p_move rfl) rfl rfl rfl ?_
          refine s1 (p_fieldAddr (fun w => fa33_1 _ w) rfl) rfl rfl rfl ?_
          refine s1 (p_load m0 Tryz.underlying3 rfl rfl rfl) rfl rfl rfl ?_
          refine s1 (pb_true (p_eq rfl rfl) (by omega)) rfl rfl rfl ?_
          refine s1 (p_move rfl) rfl rfl rfl ?_
          refine sg1 (p_move rfl) rfl rfl rfl rfl ?_
          refine sg1 (p_fieldAddr (fun w => fa33_2 _ w) rfl) rfl rfl rfl rfl ?_
          refine sg1 (p_load m0 Tryz.underlying3 rfl rfl rfl) rfl rfl rfl rfl ?_
          refine sg1 (pb_true (p_eq rfl rfl) (by omega)) rfl rfl rfl rfl ?_
          refine s1 (p_pickT rfl rfl) rfl rfl rfl ?_
          refine s1 (p_move rfl) rfl rfl rfl ?_
          refine sg1 (p_move rfl) rfl rfl rfl rfl ?_
          refine sg1 (p_loadA m0 Tryz.underlying33 rfl sz33 rfl) rfl rfl rfl rfl ?_
          refine sg_step (st_call Tryz.func11 nm11 bo11 rfl (kindOf_spec t hok.d3)) rfl rfl rfl rfl ?_
          rintro _ _ ⟨rfl, rfl⟩
          refine sg1 (pb_true (p_eq rfl rfl) (by omega)) rfl rfl rfl rfl ?_
          refine s1 (p_pickT rfl rfl) rfl rfl rfl ?_
          refine s1 (p_move rfl) rfl rfl rfl ?_
          refine sg1 (p_fieldAddr (fun w => fa33_3 _ w) rfl) rfl rfl rfl rfl ?_
          refine sg1 (p_load m0 Tryz.underlying3 rfl rfl rfl) rfl rfl rfl rfl ?_
          refine sg1 (pb_false (p_eq rfl rfl) (by omega)) rfl rfl rfl rfl ?_
          refine sg1 (p_move rfl) rfl rfl rfl rfl ?_
          refine sg1 (p_move rfl) rfl rfl rfl rfl ?_
          refine sg1 (p_len Tryz.underlying26 rfl) rfl rfl rfl rfl ?_
          refine sg1 (pb_true (p_eq rfl rfl) (show ((palOf t (shadesL l)).length : Int) = 0 by unfold palOf; rw [if_neg h123]; rfl)) rfl rfl rfl rfl ?_
          refine sg1 (p_pickF rfl rfl) rfl rfl rfl rfl ?_
          refine s1 (p_pickT rfl rfl) rfl rfl rfl ?_
          refine s1 (p_assign rfl) rfl rfl rfl ?_
          refine s_nil ?_
          refine x_next ?_
          refine c_ret ?_
          exact x_done_one rfl rfl ⟨rfl, [_, _, _, _, _, _], rfl⟩
    · refine c_region ?_
      refine s1 (p_move rfl) rfl rfl rfl ?_
      refine s_step (st_call Tryz.func4 nm4 bo4 rfl (few_spec A N c l hl)) rfl rfl rfl ?_
      rintro _ T1 ⟨rfl, hW⟩
      subst T1
      refine s1 (pv (p_not rfl) (congrArg (fun b => Value.bool (!b)) (decide_eq_false hq))) rfl rfl rfl ?_
      refine s_nil ?_
      refine x_next ?_
      refine c_true rfl ?_
      refine c_seq ?_
      refine c_region ?_
      refine s1 (p_assign rfl) rfl rfl rfl ?_
      refine s_nil ?_
      refine x_next ?_
      refine c_ret ?_
      refine x_ret_then ?_
      exact x_done_one rfl rfl ⟨rfl, [], rfl⟩

end V
end Go.Proofs.YtaflcjoagfnhfaaGreatDoor
