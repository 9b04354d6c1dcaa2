/- A walk: the decoder reads the directory. -/
import Derived.Test.YtaflcjoagfnhfaaGreatDoorZ
namespace Go.Proofs.YtaflcjoagfnhfaaGreatDoor
namespace V
open Go Go.Proofs

set_option maxHeartbeats 4000000 in
set_option maxRecDepth 100000 in
theorem newDecoder_spec {F : List As} (gr : Nat) (t : Tif) (hok : t.Ok) (pal : List RGB) (hpal : pal.length = 256) (hin : ∀ x ∈ pal, inB x) (A : Option Addr) (N c : Nat) (l : List Int) (hl : l.length = N) (hN : N ≤ 1000000000) (hlaid : Laid t pal l) (hb : blk gr [.slice A N c, .int .i64 0, .int .i64 (-1)] 82 ∈ F) (hr : ∀ w, Sat w F → Reads w (.slice A N c) 1 N (by8 l)) (hlen : ∀ w, Sat w F → ∀ o u, lens[o]? = some u → w.cell? ⟨5, o, none⟩ = some u) :
    Fun Tryz.prog 25 [.iface 53 (.pointer (some ⟨gr, 0, none⟩))] (F) (fun u T => ∃ gd a b PV tl X, u = .tuple #[.pointer (some ⟨gd, 0, none⟩), .nilIface] ∧ T = blk gd (a :: b :: .int .i64 t.kindOf :: PV :: .int .i64 t.wide :: .int .i64 t.high :: tl) 80 :: (X ++ F) ∧ PalV t pal PV X) := by
  obtain ⟨big, hbig⟩ : ∃ b, b = t.big := ⟨_, rfl⟩
  obtain ⟨rest, z, pl, sz, tail, ps, hfile, hR1, hR2, hdir⟩ := hlaid
  obtain ⟨R, hR⟩ : ∃ R, rest.length = R := ⟨_, rfl⟩
  rw [hR] at hfile hR1 hR2 hdir
  obtain ⟨es, hes⟩ : ∃ es, es = E8 t pal pl sz := ⟨_, rfl⟩
  obtain ⟨n, hnes⟩ : ∃ n, es.length = n := ⟨_, rfl⟩
  have hn16 : n ≤ 16 := by rw [← hnes, hes]; exact E8_len t pal pl sz
  have hn1 : 1 ≤ n := by
    have := List.length_pos_of_mem (hes ▸ E8_one pal pl sz (t := t) (e := ⟨256, 3, [t.wide]⟩) (by simp [E1]) : (⟨256, 3, [t.wide]⟩ : Ent) ∈ es)
    omega
  obtain ⟨c1, c2, c3, c4, c5⟩ := hdir.cuts (n := n) hR (by rw [← hes]; exact hnes) hfile
  rw [hl] at c5
  have hfine : ∀ e ∈ es, e.Fine t pal := by
    rw [hes]; exact E8_Fine hok hpal hin ⟨hdir.pl0, hdir.pl1⟩ ⟨hdir.sz0, hdir.sz1⟩ hdir.plN hdir.szN
  have hasc : TagsAsc es := by rw [hes]; exact E8_asc hok pal pl sz
  have hpsn : ps.length = n := by rw [hdir.psN, ← hes]; exact hnes
  have hbase : 8 + (R : Int) + 2 + 12 * ((E8 t pal pl sz).length : Int) + 4 = ((8 + R + 2 + 12 * n + 4 : Nat) : Int) := by rw [← hes, hnes]; omega
  have hw := hok.w
  have hh := hok.h
  have hcol := hok.c
  have hd := hok.d
  have hd2 := hok.d2
  have hd3 := hok.d3
  have hal0 := hok.a
  have hch := t.chan_pos
  have hc34 : t.colour = 2 → t.chan = 3 ∨ t.chan = 4 := by
    intro h; unfold Tif.chan; rw [if_neg (by omega)]; split <;> simp
  have hc1 : ¬ t.colour = 2 → t.chan = 1 := by
    intro h; unfold Tif.chan; rw [if_pos h]
  obtain ⟨P8, hP8⟩ : ∃ P, P = hd8 big R := ⟨_, rfl⟩
  rw [← hbig] at c1 c2
  have hdirb : ∀ (j : Nat) p e, ps[j]? = some p → es[j]? = some e → Placed big ((8 + R + 2 + 12 * n + 4 : Nat) : Int) tail p e := by
    intro j p e hp he
    rw [hbig, ← hbase]; exact hdir.each j p e hp (hes ▸ he)
  refine fun_intro Tryz.func25 rfl Tryz.ntmps25 (Nat.le_of_ble_eq_true rfl) ?_
  refine c_seq ?_
  refine c_region ?_
  refine s1 (p_assign rfl) rfl rfl rfl ?_
  refine s1 (p_assign rfl) rfl rfl rfl ?_
  refine s_nil ?_
  refine x_next ?_
  refine c_seq ?_
  refine c_region ?_
  refine s1 (p_move rfl) rfl rfl rfl ?_
  refine s_step (st_call Tryz.func30 nm30 bo30 rfl (newReaderAt_spec gr)) rfl rfl rfl ?_
  rintro _ T1 ⟨rfl, hW⟩
  subst T1
  refine s_step (st_makeMap) rfl rfl rfl ?_
  rintro _ _ ⟨r, rfl, rfl⟩
  refine s1 (p_build rfl (fun w => bd80 _ _ _ w)) rfl rfl rfl ?_
  refine s_step (st_box rfl) rfl rfl rfl ?_
  rintro _ _ ⟨gd, rfl, rfl⟩
  refine s_perm (T := blk gd [.iface 53 (.pointer (some ⟨gr, 0, none⟩)), .nilIface, .int .i64 (0), .slice none 0 0, .int .i64 (0), .int .i64 (0), .int .i64 (0), .int .u64 (0), .map (some r), .slice none 0 0, .slice none 0 0, .int .i64 0, .int .u32 0, .int .u64 0] 80 :: _) f0 ?_
  refine s1 (p_assign rfl) rfl rfl rfl ?_
  refine s_nil ?_
  refine x_next ?_
  refine c_seq ?_
  refine c_region ?_
  refine s_step (st_makeSlice (k := .i64) (n := 8) (z := .int .u8 0) Tryz.underlying23 inf5 rfl rfl rfl ⟨by omega, by omega⟩) rfl rfl rfl ?_
  rintro _ _ ⟨gb, rfl, rfl⟩
  rw [show List.replicate 8 (Value.int .u8 0) = by8 (List.replicate 8 0) by simp [by8]]
  refine s1 (p_assign rfl) rfl rfl rfl ?_
  refine s_nil ?_
  refine x_next ?_
  refine c_seq ?_
  refine c_seq ?_
  refine c_region ?_
  refine s1 (p_move rfl) rfl rfl rfl ?_
  refine s1 (p_nilCheck rfl) rfl rfl rfl ?_
  refine s1 (p_fieldAddr (fun w => fa80_0 _ w) rfl) rfl rfl rfl ?_
  refine s1 (p_load m1 Tryz.underlying74 rfl rfl rfl) rfl rfl rfl ?_
  refine s1 (p_move rfl) rfl rfl rfl ?_
  refine s_step (st_invoke Tryz.func75 nm75 bo75 rfl (fun w _ => mtRead gr w) rfl (readAt_spec gr gb 8 8 8 8 A N c l hl 0 (List.replicate 8 0) (Nat.le_refl _) (by omega) (by omega) hN (List.mem_cons_of_mem _ (List.mem_cons_of_mem _ hb)) (fun w h => hr w h.tail.tail))) rfl rfl rfl ?_
  rintro _ _ ⟨rfl, rfl⟩
  rw [show (l.drop 0).take 8 ++ (List.replicate 8 (0 : Int)).drop 8 = P8 by rw [c1, hP8]; exact List.append_nil _]
  refine s1 (p_move rfl) rfl rfl rfl ?_
  refine s1 (p_extract rfl rfl) rfl rfl rfl ?_
  refine s1 (p_extract rfl rfl) rfl rfl rfl ?_
  refine s1 (p_assign rfl) rfl rfl rfl ?_
  refine s1 (p_assign rfl) rfl rfl rfl ?_
  refine s_nil ?_
  refine x_next ?_
  refine c_seq ?_
  refine c_region ?_
  refine s1 (p_move rfl) rfl rfl rfl ?_
  refine s1 (p_errnil Tryz.underlying50 rfl) rfl rfl rfl ?_
  refine s_nil ?_
  refine x_next ?_
  refine c_false rfl ?_
  refine c_skip ?_
  refine x_next ?_
  refine c_cut (α := (Unit)) (fun gg => True) (fun gg => [(4, .pointer (some ⟨gd, 0, none⟩)), (5, .slice (some ⟨gb, 0, none⟩) 8 8)]) (fun gg => own (.slice (some ⟨gb, 0, none⟩) 8 8) 5 1 8 (by8 P8) :: blk gd [.iface 53 (.pointer (some ⟨gr, 0, none⟩)), ordV big, .int .i64 (0), .slice none 0 0, .int .i64 (0), .int .i64 (0), .int .i64 (0), .int .u64 (0), .map (some r), .slice none 0 0, .slice none 0 0, .int .i64 0, .int .u32 0, .int .u64 0] 80 :: mp r [] :: F) ?_ ?_
  · refine c_seq ?_
    refine c_region ?_
    refine s1 (p_move rfl) rfl rfl rfl ?_
    refine s1 (p_slice (l := 0) (h := 4) Tryz.underlying23 sz5 rfl rfl rfl rfl rfl (by omega) (by omega)) rfl rfl rfl ?_
    refine s1 (pv (p_b2s Tryz.underlying23 Tryz.underlying5 Tryz.underlying9 rfl (rd_slice8 (lo := 0) (hi := 4) (rd_own m0) (by omega) (by omega))) (congrArg (fun x => Value.string (strOf x)) (show (P8.drop 0).take (4 - 0) = (if big then [77, 77, 0, 42] else [73, 73, 42, 0]) by rw [hP8]; exact head04 big R))) rfl rfl rfl ?_
    refine s_nil ?_
    refine x_next ?_
    refine c_block ?_
    refine c_seq ?_
    cases big
    · refine c_region ?_
      refine s1 (pv (p_seq rfl rfl) (congrArg Value.bool (show ((strOf [73, 73, 42, 0]).toList == _) = true by rw [strL]; exact sLL))) rfl rfl rfl ?_
      refine s1 (p_assign rfl) rfl rfl rfl ?_
      refine s_nil ?_
      refine x_next ?_
      refine c_true rfl ?_
      refine c_region ?_
      refine s1 (p_move rfl) rfl rfl rfl ?_
      refine s1 (p_load0 Tryz.underlying97 rfl sz97 rfl) rfl rfl rfl ?_
      refine s1 (p_makeIface Tryz.underlying97 rfl rfl) rfl rfl rfl ?_
      refine s1 (p_nilCheck rfl) rfl rfl rfl ?_
      refine s1 (p_fieldAddr (fun w => fa80_1 _ w) rfl) rfl rfl rfl ?_
      refine s_perm f1 ?_
      refine s_step0 (st_store rfl rfl rfl sz76 (by simp)) rfl rfl ?_
      rintro _ _ rfl
      refine s_nil ?_
      refine x_block ?_
      exact x_cut () (trivial) ⟨rfl, rfl, trivial⟩ (((f2).trans f1).trans f2)
    · refine c_region ?_
      refine s1 (pv (p_seq rfl rfl) (congrArg Value.bool (show ((strOf [77, 77, 0, 42]).toList == _) = false by rw [strB]; exact sBL))) rfl rfl rfl ?_
      refine s1 (p_assign rfl) rfl rfl rfl ?_
      refine s_nil ?_
      refine x_next ?_
      refine c_false rfl ?_
      refine c_seq ?_
      refine c_region ?_
      refine s1 (pv (p_seq rfl rfl) (congrArg Value.bool (show ((strOf [77, 77, 0, 42]).toList == _) = true by rw [strB]; exact sBB))) rfl rfl rfl ?_
      refine s1 (p_assign rfl) rfl rfl rfl ?_
      refine s_nil ?_
      refine x_next ?_
      refine c_true rfl ?_
      refine c_region ?_
      refine s1 (p_move rfl) rfl rfl rfl ?_
      refine s1 (p_load0 Tryz.underlying98 rfl sz98 rfl) rfl rfl rfl ?_
      refine s1 (p_makeIface Tryz.underlying98 rfl rfl) rfl rfl rfl ?_
      refine s1 (p_nilCheck rfl) rfl rfl rfl ?_
      refine s1 (p_fieldAddr (fun w => fa80_1 _ w) rfl) rfl rfl rfl ?_
      refine s_perm f1 ?_
      refine s_step0 (st_store rfl rfl rfl sz76 (by simp)) rfl rfl ?_
      rintro _ _ rfl
      refine s_nil ?_
      refine x_block ?_
      exact x_cut () (trivial) ⟨rfl, rfl, trivial⟩ (((f2).trans f1).trans f2)
  · rintro b hI
    replace hI : True := hI
    refine c_sub (L' := [(4, .pointer (some ⟨gd, 0, none⟩)), (5, .slice (some ⟨gb, 0, none⟩) 8 8)]) ⟨rfl, rfl, trivial⟩ ?_
    refine c_perm (T := own (.slice (some ⟨gb, 0, none⟩) 8 8) 5 1 8 (by8 P8) :: blk gd [.iface 53 (.pointer (some ⟨gr, 0, none⟩)), ordV big, .int .i64 (0), .slice none 0 0, .int .i64 (0), .int .i64 (0), .int .i64 (0), .int .u64 (0), .map (some r), .slice none 0 0, .slice none 0 0, .int .i64 0, .int .u32 0, .int .u64 0] 80 :: mp r [] :: F) f0 ?_
    refine c_seq ?_
    refine c_draw 11 ([own (.slice (some ⟨gb, 0, none⟩) 8 8) 5 1 8 (by8 P8), blk gd [.iface 53 (.pointer (some ⟨gr, 0, none⟩)), ordV big, .int .i64 (0), .slice none 0 0, .int .i64 (0), .int .i64 (0), .int .i64 (0), .int .u64 (0), .map (some r), .slice none 0 0, .slice none 0 0, .int .i64 0, .int .u32 0, .int .u64 0] 80]) mixed ?_
    refine d_take 0 rfl (p_move rfl) rfl rfl rfl (by kernel_rfl) (fun _ h => Sat.t2 (Sat.perm ((f1).trans f1) h)) ?_
    refine d_take 1 rfl (p_nilCheck rfl) rfl rfl rfl (by kernel_rfl) (fun _ h => Sat.t2 (Sat.perm ((f1).trans f1) h)) ?_
    refine d_take 2 rfl (p_fieldAddr (fun w => fa80_1 _ w) rfl) rfl rfl rfl (by kernel_rfl) (fun _ h => Sat.t2 (Sat.perm ((f1).trans f1) h)) ?_
    refine d_take 3 rfl (p_load m1 Tryz.underlying76 rfl rfl rfl) rfl rfl rfl (by kernel_rfl) (fun _ h => Sat.t2 (Sat.perm ((f1).trans f1) h)) ?_
    refine d_take 4 rfl (p_move rfl) rfl rfl rfl (by kernel_rfl) (fun _ h => Sat.t2 (Sat.perm ((f1).trans f1) h)) ?_
    refine d_take 5 rfl (p_slice (l := 4) (h := 8) Tryz.underlying23 sz5 rfl rfl rfl rfl rfl (by omega) (by omega)) rfl rfl rfl (by kernel_rfl) (fun _ h => Sat.t2 (Sat.perm ((f1).trans f1) h)) ?_
    refine d_take 6 rfl (p_nilCheckI rfl) rfl rfl rfl (by kernel_rfl) (fun _ h => Sat.t2 (Sat.perm ((f1).trans f1) h)) ?_
    refine d_take 7 rfl (p_move rfl) rfl rfl rfl (by kernel_rfl) (fun _ h => Sat.t2 (Sat.perm ((f1).trans f1) h)) ?_
    refine d_step 8 rfl (by kernel_rfl) (st_u32 (big := big) (v := 8 + (R : Int)) (by omega) (by omega) rfl rfl (fun w h => by have := rd_slice8 (lo := 4) (hi := 8) (rd_own m0) (by omega) (by omega) w h; rwa [show 8 - 4 = 4 from rfl, hP8, head48] at this)) rfl rfl rfl ?_
    rintro _ _ ⟨rfl, rfl⟩
    refine ⟨fun _ => (fun _ h => Sat.t2 (Sat.perm ((f1).trans f1) h)), ?_⟩
    refine d_take 9 rfl (p_conv Tryz.underlying22 Tryz.underlying2 rfl ((w64 (by omega)).trans (show 8 + (R : Int) = ((8 + R : Nat) : Int) by omega))) rfl rfl rfl (by kernel_rfl) (fun _ h => Sat.t2 (Sat.perm ((f1).trans f1) h)) ?_
    refine d_take 10 rfl (p_assign rfl) rfl rfl rfl (by kernel_rfl) (fun _ h => Sat.t2 (Sat.perm ((f1).trans f1) h)) ?_
    refine d_done (by kernel_rfl) ?_
    refine x_next ?_
    refine c_seq ?_
    refine c_seq ?_
    refine c_draw 15 ([blk gd [.iface 53 (.pointer (some ⟨gr, 0, none⟩)), ordV big, .int .i64 (0), .slice none 0 0, .int .i64 (0), .int .i64 (0), .int .i64 (0), .int .u64 (0), .map (some r), .slice none 0 0, .slice none 0 0, .int .i64 0, .int .u32 0, .int .u64 0] 80]) mixed ?_
    refine d_take 0 rfl (p_move rfl) rfl rfl rfl (by kernel_rfl) (fun _ h => Sat.t1 (Sat.perm (f1) h)) ?_
    refine d_take 1 rfl (p_nilCheck rfl) rfl rfl rfl (by kernel_rfl) (fun _ h => Sat.t1 (Sat.perm (f1) h)) ?_
    refine d_take 2 rfl (p_fieldAddr (fun w => fa80_0 _ w) rfl) rfl rfl rfl (by kernel_rfl) (fun _ h => Sat.t1 (Sat.perm (f1) h)) ?_
    refine d_take 3 rfl (p_load m0 Tryz.underlying74 rfl rfl rfl) rfl rfl rfl (by kernel_rfl) (fun _ h => Sat.t1 (Sat.perm (f1) h)) ?_
    refine d_take 4 rfl (p_move rfl) rfl rfl rfl (by kernel_rfl) (fun _ h => Sat.t1 (Sat.perm (f1) h)) ?_
    refine d_take 5 rfl (pv (p_slice (l := 0) (h := 2) Tryz.underlying23 sz5 rfl rfl rfl rfl rfl (by omega) (by omega)) (show Value.slice (slA (some ⟨gb, 0, none⟩) 8 0 1) (2 - 0) (8 - 0) = .slice (some ⟨gb, 0, none⟩) 2 8 from rfl)) rfl rfl rfl (by kernel_rfl) (fun _ h => Sat.t1 (Sat.perm (f1) h)) ?_
    refine d_take 6 rfl (p_move rfl) rfl rfl rfl (by kernel_rfl) (fun _ h => Sat.t1 (Sat.perm (f1) h)) ?_
    refine d_take 7 rfl (p_nilCheckI rfl) rfl rfl rfl (by kernel_rfl) (fun _ h => Sat.t1 (Sat.perm (f1) h)) ?_
    refine d_take 8 rfl (p_move rfl) rfl rfl rfl (by kernel_rfl) (fun _ h => Sat.t1 (Sat.perm (f1) h)) ?_
    refine d_step 9 rfl (by kernel_rfl) (st_invoke Tryz.func75 nm75 bo75 rfl (fun w _ => mtRead gr w) rfl (readAt_spec gr gb 8 8 2 8 A N c l hl (8 + R) P8 (by omega) (by omega) (by omega) hN (List.mem_cons_of_mem _ (List.mem_cons_of_mem _ hb)) (fun w h => hr w h.tail.tail))) rfl rfl rfl ?_
    rintro _ _ ⟨rfl, rfl⟩
    refine ⟨fun _ => (fun _ h => Sat.t1 (Sat.perm (f1) h)), ?_⟩
    rw [c2]
    refine d_take 10 rfl (p_move rfl) rfl rfl rfl (by kernel_rfl) (fun _ h => Sat.t1 (Sat.perm (f1) h)) ?_
    refine d_take 11 rfl (p_extract rfl rfl) rfl rfl rfl (by kernel_rfl) (fun _ h => Sat.t1 (Sat.perm (f1) h)) ?_
    refine d_take 12 rfl (p_extract rfl rfl) rfl rfl rfl (by kernel_rfl) (fun _ h => Sat.t1 (Sat.perm (f1) h)) ?_
    refine d_take 13 rfl (p_assign rfl) rfl rfl rfl (by kernel_rfl) (fun _ h => Sat.t1 (Sat.perm (f1) h)) ?_
    refine d_take 14 rfl (p_assign rfl) rfl rfl rfl (by kernel_rfl) (fun _ h => Sat.t1 (Sat.perm (f1) h)) ?_
    refine d_done (by kernel_rfl) ?_
    refine x_next ?_
    refine c_seq ?_
    refine c_region ?_
    refine s1 (p_move rfl) rfl rfl rfl ?_
    refine s1 (p_errnil Tryz.underlying50 rfl) rfl rfl rfl ?_
    refine s_nil ?_
    refine x_next ?_
    refine c_false rfl ?_
    refine c_skip ?_
    refine x_next ?_
    refine c_seq ?_
    refine c_draw 11 ([own (.slice (some ⟨gb, 0, none⟩) 8 8) 5 1 8 (by8 (num big 2 (n : Int) ++ P8.drop 2)), blk gd [.iface 53 (.pointer (some ⟨gr, 0, none⟩)), ordV big, .int .i64 (0), .slice none 0 0, .int .i64 (0), .int .i64 (0), .int .i64 (0), .int .u64 (0), .map (some r), .slice none 0 0, .slice none 0 0, .int .i64 0, .int .u32 0, .int .u64 0] 80]) mixed ?_
    refine d_take 0 rfl (p_move rfl) rfl rfl rfl (by kernel_rfl) (fun _ h => Sat.t2 (Sat.perm ((f1).trans f1) h)) ?_
    refine d_take 1 rfl (p_nilCheck rfl) rfl rfl rfl (by kernel_rfl) (fun _ h => Sat.t2 (Sat.perm ((f1).trans f1) h)) ?_
    refine d_take 2 rfl (p_fieldAddr (fun w => fa80_1 _ w) rfl) rfl rfl rfl (by kernel_rfl) (fun _ h => Sat.t2 (Sat.perm ((f1).trans f1) h)) ?_
    refine d_take 3 rfl (p_load m1 Tryz.underlying76 rfl rfl rfl) rfl rfl rfl (by kernel_rfl) (fun _ h => Sat.t2 (Sat.perm ((f1).trans f1) h)) ?_
    refine d_take 4 rfl (p_move rfl) rfl rfl rfl (by kernel_rfl) (fun _ h => Sat.t2 (Sat.perm ((f1).trans f1) h)) ?_
    refine d_take 5 rfl (p_slice (l := 0) (h := 2) Tryz.underlying23 sz5 rfl rfl rfl rfl rfl (by omega) (by omega)) rfl rfl rfl (by kernel_rfl) (fun _ h => Sat.t2 (Sat.perm ((f1).trans f1) h)) ?_
    refine d_take 6 rfl (p_nilCheckI rfl) rfl rfl rfl (by kernel_rfl) (fun _ h => Sat.t2 (Sat.perm ((f1).trans f1) h)) ?_
    refine d_take 7 rfl (p_move rfl) rfl rfl rfl (by kernel_rfl) (fun _ h => Sat.t2 (Sat.perm ((f1).trans f1) h)) ?_
    refine d_step 8 rfl (by kernel_rfl) (st_u16 (big := big) (v := (n : Int)) (by omega) (by omega) rfl rfl (fun w h => by have := rd_slice8 (lo := 0) (hi := 2) (rd_own m0) (by omega) (by omega) w h; rwa [show 2 - 0 = 2 from rfl, List.drop_zero, take_app (num_length ..)] at this)) rfl rfl rfl ?_
    rintro _ _ ⟨rfl, rfl⟩
    refine ⟨fun _ => (fun _ h => Sat.t2 (Sat.perm ((f1).trans f1) h)), ?_⟩
    refine d_take 9 rfl (p_conv Tryz.underlying100 Tryz.underlying3 rfl (w64 (by omega))) rfl rfl rfl (by kernel_rfl) (fun _ h => Sat.t2 (Sat.perm ((f1).trans f1) h)) ?_
    refine d_take 10 rfl (p_assign rfl) rfl rfl rfl (by kernel_rfl) (fun _ h => Sat.t2 (Sat.perm ((f1).trans f1) h)) ?_
    refine d_done (by kernel_rfl) ?_
    refine x_next ?_
    refine c_seq ?_
    refine c_region ?_
    refine s1 (p_assign rfl) rfl rfl rfl ?_
    refine s_nil ?_
    refine x_next ?_
    refine c_seq ?_
    refine c_region ?_
    refine s1 (p_move rfl) rfl rfl rfl ?_
    refine s1 (p_nilCheck rfl) rfl rfl rfl ?_
    refine s1 (p_fieldAddr (fun w => fa80_0 _ w) rfl) rfl rfl rfl ?_
    refine s1 (p_load m1 Tryz.underlying74 rfl rfl rfl) rfl rfl rfl ?_
    refine s1 (p_move rfl) rfl rfl rfl ?_
    refine s1 (p_mul rfl rfl (w64 (by omega))) rfl rfl rfl ?_
    refine s1 (p_conv Tryz.underlying3 Tryz.underlying104 rfl ((wu64 (by omega)).trans (show 12 * (n : Int) = ((12 * n : Nat) : Int) by omega))) rfl rfl rfl ?_
    refine s1 (p_move rfl) rfl rfl rfl ?_
    refine s1 (p_add rfl rfl ((w64 (by omega)).trans (show ((8 + R : Nat) : Int) + 2 = ((8 + R + 2 : Nat) : Int) by omega))) rfl rfl rfl ?_
    refine s_step (st_call Tryz.func31 nm31 bo31 rfl (safe_spec gr (12 * n) A N c l hl (8 + R + 2) (by omega) (by omega) (by omega) hN (List.mem_cons_of_mem _ (List.mem_cons_of_mem _ (List.mem_cons_of_mem _ hb))) (fun w h => hr w h.tail.tail.tail))) rfl rfl rfl ?_
    rintro _ _ ⟨gq, rfl, rfl⟩
    rw [c3]
    refine s1 (p_move rfl) rfl rfl rfl ?_
    refine s1 (p_extract rfl rfl) rfl rfl rfl ?_
    refine s1 (p_extract rfl rfl) rfl rfl rfl ?_
    refine s1 (p_assign rfl) rfl rfl rfl ?_
    refine s1 (p_assign rfl) rfl rfl rfl ?_
    refine s_nil ?_
    refine x_next ?_
    refine c_seq ?_
    refine c_seq ?_
    refine c_region ?_
    refine s1 (p_move rfl) rfl rfl rfl ?_
    refine s1 (p_errnil Tryz.underlying50 rfl) rfl rfl rfl ?_
    refine s_nil ?_
    refine x_next ?_
    refine c_false rfl ?_
    refine c_skip ?_
    refine x_next ?_
    refine c_seq ?_
    refine c_region ?_
    refine s1 (p_assign rfl) rfl rfl rfl ?_
    refine s_nil ?_
    refine x_next ?_
    refine c_seq ?_
    refine c_seq ?_
    refine c_perm f1 ?_
    refine c_perm f1 ?_
    refine c_perm f3 ?_
    refine c_perm f3 ?_
    skip
    refine c_region ?_
    refine s1 (p_assign rfl) rfl rfl rfl ?_
    refine s_nil ?_
    refine x_next ?_
    refine c_block ?_
    refine c_loop (α := (Nat) × (Value) × (List (Int × Value)) × (List As) × (Int)) (fun gg => gg.1 ≤ n ∧ DInv gg.2.2.2.1 pal es gg.1 gg.2.1 gg.2.2.1 ∧ (∀ (j : Nat) (e : Ent), gg.1 ≤ j → es[j]? = some e → gg.2.2.2.2 < e.tag) ∧ (own (.slice (some ⟨gq, 0, none⟩) (12 * n) (12 * n)) 5 1 (12 * n) (by8 ps.flatten) ∈ gg.2.2.2.1)) (fun gg => n - gg.1) (fun gg => [(4, .pointer (some ⟨gd, 0, none⟩)), (5, .slice (some ⟨gq, 0, none⟩) (12 * n) (12 * n)), (13, .int .i64 gg.2.2.2.2), (14, .int .i64 (12 * (gg.1 : Int)))]) (fun gg => blk gd (dcsOf gr big r gg.2.1) 80 :: mp r gg.2.2.1 :: (gg.2.2.2.1 ++ F)) ⟨0, .slice none 0 0, [], [own (.slice (some ⟨gq, 0, none⟩) (12 * n) (12 * n)) 5 1 (12 * n) (by8 ps.flatten), own (.slice (some ⟨gb, 0, none⟩) 8 8) 5 1 8 (by8 (num big 2 (n : Int) ++ P8.drop 2))], -1⟩ (⟨Nat.zero_le _, ⟨fun j e hj => absurd hj (Nat.not_lt_zero _), fun x hx => (by cases hx), .inl ⟨rfl, fun j e hj => absurd hj (Nat.not_lt_zero _)⟩⟩, fun j e _ he => by have := hfine e (List.mem_of_getElem? he); have := this.tag; unfold FT at this; dsimp only; omega, List.mem_cons_self ..⟩) ⟨rfl, rfl, rfl, rfl, trivial⟩ ((f1).trans f1) ?_
    rintro ⟨q, PV, ks, X, pt⟩ hI
    replace hI : q ≤ n ∧ DInv X pal es q PV ks ∧ (∀ (j : Nat) (e : Ent), q ≤ j → es[j]? = some e → pt < e.tag) ∧ (own (.slice (some ⟨gq, 0, none⟩) (12 * n) (12 * n)) 5 1 (12 * n) (by8 ps.flatten) ∈ X) := hI
    obtain ⟨hq, hinv, hpt, hQ⟩ := hI
    refine c_sub (L' := [(4, .pointer (some ⟨gd, 0, none⟩)), (5, .slice (some ⟨gq, 0, none⟩) (12 * n) (12 * n)), (13, .int .i64 pt), (14, .int .i64 (12 * (q : Int)))]) ⟨rfl, rfl, rfl, rfl, trivial⟩ ?_
    refine c_perm (T := blk gd (dcsOf gr big r PV) 80 :: mp r ks :: (X ++ F)) f0 ?_
    refine c_seq ?_
    refine c_seq ?_
    refine c_region ?_
    refine s1 (p_move rfl) rfl rfl rfl ?_
    refine s1 (p_move rfl) rfl rfl rfl ?_
    refine s1 (p_len Tryz.underlying23 rfl) rfl rfl rfl ?_
    refine s1 (p_lt rfl rfl) rfl rfl rfl ?_
    refine s_nil ?_
    refine x_next ?_
    refine c_if rfl (fun h118 => ?_) (fun h118 => ?_)
    · refine c_skip ?_
      refine x_next ?_
      refine c_seq ?_
      refine c_block ?_
      refine c_seq ?_
      obtain ⟨e, he⟩ : ∃ e, es[q]? = some e := ⟨_, List.getElem?_eq_getElem (by omega)⟩
      obtain ⟨pp, hpp⟩ : ∃ x, ps[q]? = some x := ⟨_, List.getElem?_eq_getElem (by omega)⟩
      have hfe := hfine e (List.mem_of_getElem? he)
      have hplc := hdirb q pp e hpp he
      obtain ⟨tg, kd, nm⟩ := e
      have hgt := hpt q _ (Nat.le_refl _) he
      have htg := hfe.tag
      simp only at hgt htg
      refine c_region ?_
      refine s1 (p_move rfl) rfl rfl rfl ?_
      refine s1 (p_move rfl) rfl rfl rfl ?_
      refine s1 (p_move rfl) rfl rfl rfl ?_
      refine s1 (p_move rfl) rfl rfl rfl ?_
      refine s1 (p_add rfl rfl (w64 (by omega))) rfl rfl rfl ?_
      refine s1 (pv (p_slice (l := 12 * q) (h := 12 * q + 12) Tryz.underlying23 sz5 rfl rfl rfl (by omega) (by omega) (by omega) (by omega)) (show Value.slice (slA (some ⟨gq, 0, none⟩) (12 * n) (12 * q) 1) (12 * q + 12 - 12 * q) (12 * n - 12 * q) = .slice (slA (some ⟨gq, 0, none⟩) (12 * n) (12 * q) 1) 12 (12 * n - 12 * q) by rw [show 12 * q + 12 - 12 * q = 12 by omega])) rfl rfl rfl ?_
      refine s_step (st_call Tryz.func32 nm32 bo32 rfl (parse_spec gd gr r (dcsOf gr big r PV) ks big pal rfl rfl rfl rfl A N c l hl hN (List.mem_append_right _ hb) (fun w h => hr w (sat_app h)) (fun w h => hlen w (sat_app h)) (slA (some ⟨gq, 0, none⟩) (12 * n) (12 * q) 1) (12 * n - 12 * q) pp (fun w h => by have := rd_slice8 (lo := 12 * q) (hi := 12 * q + 12) (rd_own (List.mem_append_left _ hQ)) (by omega) (by omega) w h; rwa [show 12 * q + 12 - 12 * q = 12 by omega, flat12_get hdir.ps12 hpp] at this) (8 + R + 2 + 12 * n + 4) tail c4 (by omega) tg kd nm hplc hfe.k hfe.n hfe.v hfe.tag (hinv.new hasc he) (fun h => ⟨hfe.pal h, hpal, hin⟩))) rfl rfl rfl ?_
      rintro _ _ ⟨rfl, dcs2, ks2, X2, rfl, hres⟩
      obtain ⟨PV', rfl, hinv'⟩ := hinv.step hasc he hres
      rw [← List.append_assoc]
      refine s1 (p_move rfl) rfl rfl rfl ?_
      refine s1 (p_extract rfl rfl) rfl rfl rfl ?_
      refine s1 (p_extract rfl rfl) rfl rfl rfl ?_
      refine s1 (p_assign rfl) rfl rfl rfl ?_
      refine s1 (p_assign rfl) rfl rfl rfl ?_
      refine s_nil ?_
      refine x_next ?_
      refine c_seq ?_
      refine c_seq ?_
      refine c_region ?_
      refine s1 (p_move rfl) rfl rfl rfl ?_
      refine s1 (p_errnil Tryz.underlying50 rfl) rfl rfl rfl ?_
      refine s_nil ?_
      refine x_next ?_
      refine c_false rfl ?_
      refine c_skip ?_
      refine x_next ?_
      refine c_seq ?_
      refine c_seq ?_
      refine c_region ?_
      refine s1 (p_move rfl) rfl rfl rfl ?_
      refine s1 (p_move rfl) rfl rfl rfl ?_
      refine s1 (pb_false (p_le rfl rfl) (show ¬ tg ≤ pt by omega)) rfl rfl rfl ?_
      refine s_nil ?_
      refine x_next ?_
      refine c_false rfl ?_
      refine c_skip ?_
      refine x_next ?_
      refine c_region ?_
      refine s1 (p_move rfl) rfl rfl rfl ?_
      refine s1 (p_assign rfl) rfl rfl rfl ?_
      refine s_nil ?_
      refine x_block ?_
      refine x_next ?_
      refine c_region ?_
      refine s1 (p_move rfl) rfl rfl rfl ?_
      refine s1 (p_add rfl rfl (w64 (by omega))) rfl rfl rfl ?_
      refine s1 (p_assign rfl) rfl rfl rfl ?_
      refine s_nil ?_
      exact x_loop ⟨q + 1, PV', ks2, X2 ++ X, tg⟩ (⟨by dsimp only; omega, hinv', fun j e' hj he' => hasc q j ⟨tg, kd, nm⟩ e' (by dsimp only at hj; omega) he he', List.mem_append_right _ hQ⟩) (by dsimp only; omega) ⟨rfl, rfl, rfl, (by show some (Value.int .i64 (12 * (q : Int) + 12)) = some (.int .i64 (12 * ((q + 1 : Nat) : Int))); rw [show 12 * ((q + 1 : Nat) : Int) = 12 * (q : Int) + 12 by omega]), trivial⟩ ((f1).trans f1)
    · refine c_exit ?_
      refine x_exit_then ?_
      refine x_exit_then ?_
      refine x_exit_here ?_
      refine x_next ?_
      refine c_seq ?_
      obtain rfl : q = n := by omega
      rw [← hnes] at hinv
      obtain ⟨U256, c256, l256, r256⟩ := hinv.get (tg := 256) (kd := 3) (nm := [t.wide]) (hes ▸ E8_one pal pl sz (by simp [E1])) (by omega) (by omega)
      obtain ⟨U257, c257, l257, r257⟩ := hinv.get (tg := 257) (kd := 4) (nm := [t.high]) (hes ▸ E8_one pal pl sz (by simp [E1])) (by omega) (by omega)
      obtain ⟨U258, c258, l258, r258⟩ := hinv.get (tg := 258) (kd := 3) (nm := List.replicate t.chan.toNat t.depth) (hes ▸ E8_one pal pl sz (by simp [E1])) (by omega) (by omega)
      obtain ⟨U262, c262, l262, r262⟩ := hinv.get (tg := 262) (kd := 3) (nm := [t.colour]) (hes ▸ E8_one pal pl sz (by simp [E1])) (by omega) (by omega)
      have hlenr : (List.replicate t.chan.toNat t.depth).length = t.chan.toNat := List.length_replicate ..
      have hpv : PalV t pal PV X := by subst hes; exact hinv.palV
      replace r256 := fun w (h : Sat w (X ++ F)) => r256 w (sat_appL h)
      replace r257 := fun w (h : Sat w (X ++ F)) => r257 w (sat_appL h)
      replace r258 := fun w (h : Sat w (X ++ F)) => r258 w (sat_appL h)
      replace r262 := fun w (h : Sat w (X ++ F)) => r262 w (sat_appL h)
      have hdep : (List.replicate t.chan.toNat t.depth).getD 0 0 = t.depth := by
        rw [List.getD_eq_getElem?_getD, List.getElem?_replicate, if_pos (by omega)]; rfl
      refine c_perm (T := blk gd [.iface 53 (.pointer (some ⟨gr, 0, none⟩)), ordV big, .int .i64 (0), .slice none 0 0, .int .i64 (0), .int .i64 (0), .int .i64 (0), .int .u64 (0), .map (some r), PV, .slice none 0 0, .int .i64 0, .int .u32 0, .int .u64 0] 80 :: mp r ks :: (X ++ F)) f0 ?_
      refine c_region ?_
      refine s1 (p_move rfl) rfl rfl rfl ?_
      refine s1 (p_move rfl) rfl rfl rfl ?_
      refine s_step (st_call Tryz.func33 nm33 bo33 rfl (firstVal_spec gd r _ ks m0 rfl m1 256 U256 1 c256 [t.wide] rfl (by first | decide | (simp; omega)) l256 (fun w h => r256 w h.tail.tail))) rfl rfl rfl ?_
      rintro _ _ ⟨rfl, rfl⟩
      refine s1 (p_conv Tryz.underlying59 Tryz.underlying3 rfl (w64 (show -9223372036854775808 ≤ t.wide ∧ t.wide ≤ 9223372036854775807 by omega))) rfl rfl rfl ?_
      refine s1 (p_nilCheck rfl) rfl rfl rfl ?_
      refine s1 (p_fieldAddr (fun w => fa80_2 _ w) rfl) rfl rfl rfl ?_
      refine s1 (p_fieldAddr (fun w => fb48_2 _ w) rfl) rfl rfl rfl ?_
      refine s_step0 (st_store rfl rfl rfl sz3 (by simp)) rfl rfl ?_
      rintro _ _ rfl
      refine s_nil ?_
      refine x_next ?_
      refine c_seq ?_
      refine c_region ?_
      refine s1 (p_move rfl) rfl rfl rfl ?_
      refine s1 (p_move rfl) rfl rfl rfl ?_
      refine s_step (st_call Tryz.func33 nm33 bo33 rfl (firstVal_spec gd r _ ks m0 rfl m1 257 U257 1 c257 [t.high] rfl (by first | decide | (simp; omega)) l257 (fun w h => r257 w h.tail.tail))) rfl rfl rfl ?_
      rintro _ _ ⟨rfl, rfl⟩
      refine s1 (p_conv Tryz.underlying59 Tryz.underlying3 rfl (w64 (show -9223372036854775808 ≤ t.high ∧ t.high ≤ 9223372036854775807 by omega))) rfl rfl rfl ?_
      refine s1 (p_nilCheck rfl) rfl rfl rfl ?_
      refine s1 (p_fieldAddr (fun w => fa80_2 _ w) rfl) rfl rfl rfl ?_
      refine s1 (p_fieldAddr (fun w => fb48_3 _ w) rfl) rfl rfl rfl ?_
      refine s_step0 (st_store rfl rfl rfl sz3 (by simp)) rfl rfl ?_
      rintro _ _ rfl
      refine s_nil ?_
      refine x_next ?_
      refine c_seq ?_
      refine c_seq ?_
      refine c_region ?_
      refine s1 (p_move rfl) rfl rfl rfl ?_
      refine s1 (p_nilCheck rfl) rfl rfl rfl ?_
      refine s1 (p_fieldAddr (fun w => fa80_5 _ w) rfl) rfl rfl rfl ?_
      refine s1 (p_load m0 Tryz.underlying78 rfl rfl rfl) rfl rfl rfl ?_
      refine s1 (p_lookup2 m1 Tryz.underlying78 Tryz.underlying3 rfl rfl l258) rfl rfl rfl ?_
      refine s1 (p_move rfl) rfl rfl rfl ?_
      refine s1 (p_extract rfl rfl) rfl rfl rfl ?_
      refine s1 (p_extract rfl rfl) rfl rfl rfl ?_
      refine s1 (p_assign rfl) rfl rfl rfl ?_
      refine s1 (p_assign rfl) rfl rfl rfl ?_
      refine s_nil ?_
      refine x_next ?_
      refine c_seq ?_
      refine c_region ?_
      refine s1 (p_move rfl) rfl rfl rfl ?_
      refine s1 (p_not rfl) rfl rfl rfl ?_
      refine s_nil ?_
      refine x_next ?_
      refine c_false rfl ?_
      refine c_skip ?_
      refine x_next ?_
      refine c_seq ?_
      refine c_region ?_
      refine s1 (p_move rfl) rfl rfl rfl ?_
      refine s1 (p_move rfl) rfl rfl rfl ?_
      refine s_step (st_call Tryz.func33 nm33 bo33 rfl (firstVal_spec gd r _ ks m0 rfl m1 258 U258 (List.replicate t.chan.toNat t.depth).length c258 (List.replicate t.chan.toNat t.depth) rfl (by first | decide | (simp; omega)) l258 (fun w h => r258 w h.tail.tail))) rfl rfl rfl ?_
      rintro _ _ ⟨rfl, rfl⟩
      rw [hdep]
      refine s1 (p_nilCheck rfl) rfl rfl rfl ?_
      refine s1 (p_fieldAddr (fun w => fa80_4 _ w) rfl) rfl rfl rfl ?_
      refine s_step0 (st_store rfl rfl rfl sz59 (by simp)) rfl rfl ?_
      rintro _ _ rfl
      refine s_nil ?_
      refine x_next ?_
      refine c_seq ?_
      refine c_seq ?_
      refine c_region ?_
      refine s1 (p_move rfl) rfl rfl rfl ?_
      refine s1 (p_nilCheck rfl) rfl rfl rfl ?_
      refine s1 (p_fieldAddr (fun w => fa80_4 _ w) rfl) rfl rfl rfl ?_
      refine s1 (p_load m0 Tryz.underlying59 rfl rfl rfl) rfl rfl rfl ?_
      refine s_nil ?_
      refine x_next ?_
      refine c_block ?_
      refine c_seq ?_
      refine c_region ?_
      refine s1 (pb_false (p_eq rfl rfl) (by omega)) rfl rfl rfl ?_
      refine s1 (p_assign rfl) rfl rfl rfl ?_
      refine s_nil ?_
      refine x_next ?_
      refine c_false rfl ?_
      refine c_cut (α := (Unit)) (fun gg => True) (fun gg => [(4, .pointer (some ⟨gd, 0, none⟩)), (181, .bool true)]) (fun gg => blk gd [.iface 53 (.pointer (some ⟨gr, 0, none⟩)), ordV big, .int .i64 (0), .slice none 0 0, .int .i64 (t.wide), .int .i64 (t.high), .int .i64 (0), .int .u64 (t.depth), .map (some r), PV, .slice none 0 0, .int .i64 0, .int .u32 0, .int .u64 0] 80 :: mp r ks :: (X ++ F)) ?_ ?_
      · refine c_seq ?_
        refine c_region ?_
        refine s1 (p_eq rfl rfl) rfl rfl rfl ?_
        refine s1 (p_assign rfl) rfl rfl rfl ?_
        refine s_nil ?_
        refine x_next ?_
        refine c_if rfl (fun h181 => ?_) (fun h181 => ?_)
        · refine c_skip ?_
          exact x_cut () (trivial) ⟨rfl, (congrArg (fun x => some (Value.bool x)) (decide_eq_true (show t.depth = 1 by omega))), trivial⟩ ((f1).trans f1)
        · refine c_seq ?_
          refine c_region ?_
          refine s1 (p_eq rfl rfl) rfl rfl rfl ?_
          refine s1 (p_assign rfl) rfl rfl rfl ?_
          refine s_nil ?_
          refine x_next ?_
          refine c_if rfl (fun h181 => ?_) (fun h181 => ?_)
          · refine c_skip ?_
            exact x_cut () (trivial) ⟨rfl, (congrArg (fun x => some (Value.bool x)) (decide_eq_true (show t.depth = 8 by omega))), trivial⟩ ((f1).trans f1)
          · refine c_region ?_
            refine s1 (p_eq rfl rfl) rfl rfl rfl ?_
            refine s1 (p_assign rfl) rfl rfl rfl ?_
            refine s_nil ?_
            exact x_cut () (trivial) ⟨rfl, (congrArg (fun x => some (Value.bool x)) (decide_eq_true (show t.depth = 16 by omega))), trivial⟩ ((f1).trans f1)
      · rintro b hI
        replace hI : True := hI
        refine c_sub (L' := [(4, .pointer (some ⟨gd, 0, none⟩)), (181, .bool true)]) ⟨rfl, rfl, trivial⟩ ?_
        refine c_perm (T := blk gd [.iface 53 (.pointer (some ⟨gr, 0, none⟩)), ordV big, .int .i64 (0), .slice none 0 0, .int .i64 (t.wide), .int .i64 (t.high), .int .i64 (0), .int .u64 (t.depth), .map (some r), PV, .slice none 0 0, .int .i64 0, .int .u32 0, .int .u64 0] 80 :: mp r ks :: (X ++ F)) f0 ?_
        refine c_true rfl ?_
        refine c_skip ?_
        refine x_block ?_
        refine x_next ?_
        refine c_cut (α := (Int) × (Int) × (Value) × (Value)) (fun gg => gg.2.1 = t.kindOf ∧ PalV t pal gg.2.2.1 X) (fun gg => [(4, .pointer (some ⟨gd, 0, none⟩))]) (fun gg => blk gd [.iface 53 (.pointer (some ⟨gr, 0, none⟩)), ordV big, .int .i64 (gg.2.1), gg.2.2.1, .int .i64 (t.wide), .int .i64 (t.high), .int .i64 (gg.1), .int .u64 (t.depth), .map (some r), gg.2.2.2, .slice none 0 0, .int .i64 0, .int .u32 0, .int .u64 0] 80 :: mp r ks :: (X ++ F)) ?_ ?_
        · refine c_seq ?_
          refine c_region ?_
          refine s1 (p_move rfl) rfl rfl rfl ?_
          refine s_step (st_call Tryz.func33 nm33 bo33 rfl (firstVal_spec gd r _ ks m0 rfl m1 262 U262 1 c262 [t.colour] rfl (by first | decide | (simp; omega)) l262 (fun w h => r262 w h.tail.tail))) rfl rfl rfl ?_
          rintro _ _ ⟨rfl, rfl⟩
          rw [show ([t.colour] : List Int).getD 0 0 = t.colour from rfl]
          refine s_nil ?_
          refine x_next ?_
          refine c_block ?_
          refine c_seq ?_
          refine c_region ?_
          refine s1 (p_eq rfl rfl) rfl rfl rfl ?_
          refine s1 (p_assign rfl) rfl rfl rfl ?_
          refine s_nil ?_
          refine x_next ?_
          refine c_if rfl (fun h188 => ?_) (fun h188 => ?_)
          · refine c_cut (α := (Unit)) (fun gg => True) (fun gg => [(4, .pointer (some ⟨gd, 0, none⟩))]) (fun gg => blk gd [.iface 53 (.pointer (some ⟨gr, 0, none⟩)), ordV big, .int .i64 (0), .slice none 0 0, .int .i64 (t.wide), .int .i64 (t.high), .int .i64 (0), .int .u64 (t.depth), .map (some r), PV, .slice none 0 0, .int .i64 0, .int .u32 0, .int .u64 0] 80 :: mp r ks :: (X ++ F)) ?_ ?_
            · refine c_seq ?_
              refine c_region ?_
              refine s1 (p_move rfl) rfl rfl rfl ?_
              refine s1 (p_nilCheck rfl) rfl rfl rfl ?_
              refine s1 (p_fieldAddr (fun w => fa80_4 _ w) rfl) rfl rfl rfl ?_
              refine s1 (p_load m0 Tryz.underlying59 rfl rfl rfl) rfl rfl rfl ?_
              refine s1 (p_eq rfl rfl) rfl rfl rfl ?_
              refine s_nil ?_
              refine x_next ?_
              refine c_if rfl (fun h194 => ?_) (fun h194 => ?_)
              · refine c_seq ?_
                refine c_region ?_
                refine s1 (p_move rfl) rfl rfl rfl ?_
                refine s1 (p_nilCheck rfl) rfl rfl rfl ?_
                refine s1 (p_fieldAddr (fun w => fa80_5 _ w) rfl) rfl rfl rfl ?_
                refine s1 (p_load m0 Tryz.underlying78 rfl rfl rfl) rfl rfl rfl ?_
                refine s1 (p_lookup m1 Tryz.underlying78 Tryz.underlying3 rfl rfl l258) rfl rfl rfl ?_
                refine s1 (p_len Tryz.underlying107 rfl) rfl rfl rfl ?_
                refine s1 (p_move rfl) rfl rfl rfl ?_
                refine s_nil ?_
                refine x_next ?_
                refine c_block ?_
                refine c_loop (α := (Nat)) (fun gg => gg ≤ (List.replicate t.chan.toNat t.depth).length) (fun gg => (List.replicate t.chan.toNat t.depth).length - gg) (fun gg => [(4, .pointer (some ⟨gd, 0, none⟩)), (199, .slice U258 (List.replicate t.chan.toNat t.depth).length c258), (200, .int .i64 ((List.replicate t.chan.toNat t.depth).length : Int)), (201, .int .i64 (gg : Int))]) (fun gg => blk gd [.iface 53 (.pointer (some ⟨gr, 0, none⟩)), ordV big, .int .i64 (0), .slice none 0 0, .int .i64 (t.wide), .int .i64 (t.high), .int .i64 (0), .int .u64 (t.depth), .map (some r), PV, .slice none 0 0, .int .i64 0, .int .u32 0, .int .u64 0] 80 :: mp r ks :: (X ++ F)) 0 (Nat.zero_le _) ⟨rfl, rfl, rfl, rfl, trivial⟩ ((f1).trans f1) ?_
                rintro i hI
                replace hI : i ≤ (List.replicate t.chan.toNat t.depth).length := hI
                have hi := hI
                refine c_sub (L' := [(4, .pointer (some ⟨gd, 0, none⟩)), (199, .slice U258 (List.replicate t.chan.toNat t.depth).length c258), (200, .int .i64 ((List.replicate t.chan.toNat t.depth).length : Int)), (201, .int .i64 (i : Int))]) ⟨rfl, rfl, rfl, rfl, trivial⟩ ?_
                refine c_perm (T := blk gd [.iface 53 (.pointer (some ⟨gr, 0, none⟩)), ordV big, .int .i64 (0), .slice none 0 0, .int .i64 (t.wide), .int .i64 (t.high), .int .i64 (0), .int .u64 (t.depth), .map (some r), PV, .slice none 0 0, .int .i64 0, .int .u32 0, .int .u64 0] 80 :: mp r ks :: (X ++ F)) f0 ?_
                refine c_seq ?_
                refine c_region ?_
                refine s1 (p_lt rfl rfl) rfl rfl rfl ?_
                refine s_nil ?_
                refine x_next ?_
                refine c_seq ?_
                refine c_if rfl (fun h202 => ?_) (fun h202 => ?_)
                · refine c_skip ?_
                  refine x_next ?_
                  refine c_seq ?_
                  refine c_block ?_
                  refine c_seq ?_
                  have hdi : (List.replicate t.chan.toNat t.depth).getD i 0 = t.depth := by
                    rw [List.getD_eq_getElem?_getD, List.getElem?_replicate, if_pos (by simp only [List.length_replicate] at h202; omega)]; rfl
                  refine c_region ?_
                  refine s1 (p_index (kk := i) Tryz.underlying107 sz59 rfl rfl (fun w h => r258 w h.tail.tail) (by omega) (by omega) (by omega)) rfl rfl rfl ?_
                  refine s1 (pv (p_loadE Tryz.underlying59 rfl rfl (fun w h => r258 w h.tail.tail) (u64L_get (by omega))) (congrArg (Value.int .u64) hdi)) rfl rfl rfl ?_
                  refine s1 (p_assign rfl) rfl rfl rfl ?_
                  refine s_nil ?_
                  refine x_next ?_
                  refine c_seq ?_
                  refine c_region ?_
                  refine s1 (p_move rfl) rfl rfl rfl ?_
                  refine s1 (pb_false (p_ne rfl rfl) (by omega)) rfl rfl rfl ?_
                  refine s_nil ?_
                  refine x_next ?_
                  refine c_false rfl ?_
                  refine c_skip ?_
                  refine x_block ?_
                  refine x_next ?_
                  refine c_region ?_
                  refine s1 (p_add rfl rfl (w64 (by omega))) rfl rfl rfl ?_
                  refine s1 (p_move rfl) rfl rfl rfl ?_
                  refine s_nil ?_
                  exact x_loop (i + 1) (by omega) (by omega) ⟨rfl, rfl, rfl, rfl, trivial⟩ ((f1).trans f1)
                · refine c_exit ?_
                  refine x_exit_then ?_
                  refine x_exit_then ?_
                  refine x_exit_here ?_
                  exact x_cut () (trivial) ⟨rfl, trivial⟩ ((f1).trans f1)
              · refine c_seq ?_
                refine c_region ?_
                refine s1 (p_move rfl) rfl rfl rfl ?_
                refine s1 (p_nilCheck rfl) rfl rfl rfl ?_
                refine s1 (p_fieldAddr (fun w => fa80_5 _ w) rfl) rfl rfl rfl ?_
                refine s1 (p_load m0 Tryz.underlying78 rfl rfl rfl) rfl rfl rfl ?_
                refine s1 (p_lookup m1 Tryz.underlying78 Tryz.underlying3 rfl rfl l258) rfl rfl rfl ?_
                refine s1 (p_len Tryz.underlying107 rfl) rfl rfl rfl ?_
                refine s1 (p_move rfl) rfl rfl rfl ?_
                refine s_nil ?_
                refine x_next ?_
                refine c_block ?_
                refine c_loop (α := (Nat)) (fun gg => gg ≤ (List.replicate t.chan.toNat t.depth).length) (fun gg => (List.replicate t.chan.toNat t.depth).length - gg) (fun gg => [(4, .pointer (some ⟨gd, 0, none⟩)), (213, .slice U258 (List.replicate t.chan.toNat t.depth).length c258), (214, .int .i64 ((List.replicate t.chan.toNat t.depth).length : Int)), (215, .int .i64 (gg : Int))]) (fun gg => blk gd [.iface 53 (.pointer (some ⟨gr, 0, none⟩)), ordV big, .int .i64 (0), .slice none 0 0, .int .i64 (t.wide), .int .i64 (t.high), .int .i64 (0), .int .u64 (t.depth), .map (some r), PV, .slice none 0 0, .int .i64 0, .int .u32 0, .int .u64 0] 80 :: mp r ks :: (X ++ F)) 0 (Nat.zero_le _) ⟨rfl, rfl, rfl, rfl, trivial⟩ ((f1).trans f1) ?_
                rintro i hI
                replace hI : i ≤ (List.replicate t.chan.toNat t.depth).length := hI
                have hi := hI
                refine c_sub (L' := [(4, .pointer (some ⟨gd, 0, none⟩)), (213, .slice U258 (List.replicate t.chan.toNat t.depth).length c258), (214, .int .i64 ((List.replicate t.chan.toNat t.depth).length : Int)), (215, .int .i64 (i : Int))]) ⟨rfl, rfl, rfl, rfl, trivial⟩ ?_
                refine c_perm (T := blk gd [.iface 53 (.pointer (some ⟨gr, 0, none⟩)), ordV big, .int .i64 (0), .slice none 0 0, .int .i64 (t.wide), .int .i64 (t.high), .int .i64 (0), .int .u64 (t.depth), .map (some r), PV, .slice none 0 0, .int .i64 0, .int .u32 0, .int .u64 0] 80 :: mp r ks :: (X ++ F)) f0 ?_
                refine c_seq ?_
                refine c_region ?_
                refine s1 (p_lt rfl rfl) rfl rfl rfl ?_
                refine s_nil ?_
                refine x_next ?_
                refine c_seq ?_
                refine c_if rfl (fun h216 => ?_) (fun h216 => ?_)
                · refine c_skip ?_
                  refine x_next ?_
                  refine c_seq ?_
                  refine c_block ?_
                  refine c_seq ?_
                  have hdi : (List.replicate t.chan.toNat t.depth).getD i 0 = t.depth := by
                    rw [List.getD_eq_getElem?_getD, List.getElem?_replicate, if_pos (by simp only [List.length_replicate] at h216; omega)]; rfl
                  refine c_region ?_
                  refine s1 (p_index (kk := i) Tryz.underlying107 sz59 rfl rfl (fun w h => r258 w h.tail.tail) (by omega) (by omega) (by omega)) rfl rfl rfl ?_
                  refine s1 (pv (p_loadE Tryz.underlying59 rfl rfl (fun w h => r258 w h.tail.tail) (u64L_get (by omega))) (congrArg (Value.int .u64) hdi)) rfl rfl rfl ?_
                  refine s1 (p_assign rfl) rfl rfl rfl ?_
                  refine s_nil ?_
                  refine x_next ?_
                  refine c_seq ?_
                  refine c_region ?_
                  refine s1 (p_move rfl) rfl rfl rfl ?_
                  refine s1 (pb_false (p_ne rfl rfl) (by omega)) rfl rfl rfl ?_
                  refine s_nil ?_
                  refine x_next ?_
                  refine c_false rfl ?_
                  refine c_skip ?_
                  refine x_block ?_
                  refine x_next ?_
                  refine c_region ?_
                  refine s1 (p_add rfl rfl (w64 (by omega))) rfl rfl rfl ?_
                  refine s1 (p_move rfl) rfl rfl rfl ?_
                  refine s_nil ?_
                  exact x_loop (i + 1) (by omega) (by omega) ⟨rfl, rfl, rfl, rfl, trivial⟩ ((f1).trans f1)
                · refine c_exit ?_
                  refine x_exit_then ?_
                  refine x_exit_then ?_
                  refine x_exit_here ?_
                  exact x_cut () (trivial) ⟨rfl, trivial⟩ ((f1).trans f1)
            · rintro b hI
              replace hI : True := hI
              refine c_sub (L' := [(4, .pointer (some ⟨gd, 0, none⟩))]) ⟨rfl, trivial⟩ ?_
              refine c_perm (T := blk gd [.iface 53 (.pointer (some ⟨gr, 0, none⟩)), ordV big, .int .i64 (0), .slice none 0 0, .int .i64 (t.wide), .int .i64 (t.high), .int .i64 (0), .int .u64 (t.depth), .map (some r), PV, .slice none 0 0, .int .i64 0, .int .u32 0, .int .u64 0] 80 :: mp r ks :: (X ++ F)) f0 ?_
              refine c_seq ?_
              refine c_region ?_
              refine s1 (p_move rfl) rfl rfl rfl ?_
              refine s1 (p_nilCheck rfl) rfl rfl rfl ?_
              refine s1 (p_fieldAddr (fun w => fa80_5 _ w) rfl) rfl rfl rfl ?_
              refine s1 (p_load m0 Tryz.underlying78 rfl rfl rfl) rfl rfl rfl ?_
              refine s1 (p_lookup m1 Tryz.underlying78 Tryz.underlying3 rfl rfl l258) rfl rfl rfl ?_
              refine s1 (p_len Tryz.underlying107 rfl) rfl rfl rfl ?_
              refine s_nil ?_
              refine x_next ?_
              refine c_block ?_
              refine c_seq ?_
              refine c_region ?_
              refine s1 (p_eq rfl rfl) rfl rfl rfl ?_
              refine s1 (p_assign rfl) rfl rfl rfl ?_
              refine s_nil ?_
              refine x_next ?_
              refine c_if rfl (fun h230 => ?_) (fun h230 => ?_)
              · refine c_seq ?_
                refine c_region ?_
                refine s1 (p_move rfl) rfl rfl rfl ?_
                refine s1 (p_nilCheck rfl) rfl rfl rfl ?_
                refine s1 (p_fieldAddr (fun w => fa80_3 _ w) rfl) rfl rfl rfl ?_
                refine s_step0 (st_store rfl rfl rfl sz77 (by simp)) rfl rfl ?_
                rintro _ _ rfl
                refine s_nil ?_
                refine x_next ?_
                refine c_seq ?_
                refine c_region ?_
                refine s1 (p_move rfl) rfl rfl rfl ?_
                refine s1 (p_nilCheck rfl) rfl rfl rfl ?_
                refine s1 (p_fieldAddr (fun w => fa80_4 _ w) rfl) rfl rfl rfl ?_
                refine s1 (p_load m0 Tryz.underlying59 rfl rfl rfl) rfl rfl rfl ?_
                refine s1 (p_eq rfl rfl) rfl rfl rfl ?_
                refine s_nil ?_
                refine x_next ?_
                refine c_if rfl (fun h239 => ?_) (fun h239 => ?_)
                · refine c_region ?_
                  refine s1 (p_move rfl) rfl rfl rfl ?_
                  refine s1 (p_nilCheck rfl) rfl rfl rfl ?_
                  refine s1 (p_fieldAddr (fun w => fa80_2 _ w) rfl) rfl rfl rfl ?_
                  refine s1 (p_fieldAddr (fun w => fb48_0 _ w) rfl) rfl rfl rfl ?_
                  refine s_step0 (st_store rfl rfl rfl sz3 (by simp)) rfl rfl ?_
                  rintro _ _ rfl
                  refine s_nil ?_
                  refine x_block ?_
                  refine x_block ?_
                  have hna : ((List.replicate t.chan.toNat t.depth).length : Int) = 3 → ¬ t.alpha = 2 := by
                    intro h h2
                    simp only [List.length_replicate] at h
                    have h3 : t.chan = 3 := by omega
                    unfold Tif.chan at h3
                    rw [if_neg (by omega), if_pos (by omega)] at h3
                    omega
                  exact x_cut ⟨_, 4, .slice none 0 0, PV⟩ (⟨by dsimp only; unfold Tif.kindOf; rw [if_neg (by omega), if_neg (by omega), if_neg (show ¬ t.alpha = 2 from hna h230), if_pos (by omega)]; rfl, .inl ⟨by omega, rfl⟩⟩) ⟨rfl, trivial⟩ ((f1).trans f1)
                · refine c_region ?_
                  refine s1 (p_move rfl) rfl rfl rfl ?_
                  refine s1 (p_nilCheck rfl) rfl rfl rfl ?_
                  refine s1 (p_fieldAddr (fun w => fa80_2 _ w) rfl) rfl rfl rfl ?_
                  refine s1 (p_fieldAddr (fun w => fb48_0 _ w) rfl) rfl rfl rfl ?_
                  refine s_step0 (st_store rfl rfl rfl sz3 (by simp)) rfl rfl ?_
                  rintro _ _ rfl
                  refine s_nil ?_
                  refine x_block ?_
                  refine x_block ?_
                  have hna : ((List.replicate t.chan.toNat t.depth).length : Int) = 3 → ¬ t.alpha = 2 := by
                    intro h h2
                    simp only [List.length_replicate] at h
                    have h3 : t.chan = 3 := by omega
                    unfold Tif.chan at h3
                    rw [if_neg (by omega), if_pos (by omega)] at h3
                    omega
                  exact x_cut ⟨_, 3, .slice none 0 0, PV⟩ (⟨by dsimp only; unfold Tif.kindOf; rw [if_neg (by omega), if_neg (by omega), if_neg (show ¬ t.alpha = 2 from hna h230), if_neg (by omega)]; rfl, .inl ⟨by omega, rfl⟩⟩) ⟨rfl, trivial⟩ ((f1).trans f1)
              · refine c_seq ?_
                refine c_region ?_
                refine s1 (pb_true (p_eq rfl rfl) (by omega)) rfl rfl rfl ?_
                refine s1 (p_assign rfl) rfl rfl rfl ?_
                refine s_nil ?_
                refine x_next ?_
                refine c_true rfl ?_
                refine c_seq ?_
                have hal : t.colour = 2 ∧ t.alpha > 0 := by
                  refine ⟨h188, ?_⟩
                  have h4 : ¬ t.chan = 3 := by omega
                  unfold Tif.chan at h4
                  rw [if_neg (by omega)] at h4
                  split at h4
                  · assumption
                  · exact absurd rfl h4
                obtain ⟨U338, c338, l338, r338⟩ := hinv.get (tg := 338) (kd := 3) (nm := [t.alpha]) (hes ▸ E8_alpha pal pl sz hal) (by omega) (by omega)
                replace r338 := fun w (h : Sat w (X ++ F)) => r338 w (sat_appL h)
                refine c_region ?_
                refine s1 (p_move rfl) rfl rfl rfl ?_
                refine s_step (st_call Tryz.func33 nm33 bo33 rfl (firstVal_spec gd r _ ks m0 rfl m1 338 U338 1 c338 [t.alpha] rfl (by first | decide | (simp; omega)) l338 (fun w h => r338 w h.tail.tail))) rfl rfl rfl ?_
                rintro _ _ ⟨rfl, rfl⟩
                rw [show ([t.alpha] : List Int).getD 0 0 = t.alpha from rfl]
                refine s_nil ?_
                refine x_next ?_
                refine c_block ?_
                refine c_seq ?_
                refine c_region ?_
                refine s1 (p_eq rfl rfl) rfl rfl rfl ?_
                refine s1 (p_assign rfl) rfl rfl rfl ?_
                refine s_nil ?_
                refine x_next ?_
                refine c_if rfl (fun h253 => ?_) (fun h253 => ?_)
                · refine c_seq ?_
                  refine c_region ?_
                  refine s1 (p_move rfl) rfl rfl rfl ?_
                  refine s1 (p_nilCheck rfl) rfl rfl rfl ?_
                  refine s1 (p_fieldAddr (fun w => fa80_3 _ w) rfl) rfl rfl rfl ?_
                  refine s_step0 (st_store rfl rfl rfl sz77 (by simp)) rfl rfl ?_
                  rintro _ _ rfl
                  refine s_nil ?_
                  refine x_next ?_
                  refine c_seq ?_
                  refine c_region ?_
                  refine s1 (p_move rfl) rfl rfl rfl ?_
                  refine s1 (p_nilCheck rfl) rfl rfl rfl ?_
                  refine s1 (p_fieldAddr (fun w => fa80_4 _ w) rfl) rfl rfl rfl ?_
                  refine s1 (p_load m0 Tryz.underlying59 rfl rfl rfl) rfl rfl rfl ?_
                  refine s1 (p_eq rfl rfl) rfl rfl rfl ?_
                  refine s_nil ?_
                  refine x_next ?_
                  refine c_if rfl (fun h262 => ?_) (fun h262 => ?_)
                  · refine c_region ?_
                    refine s1 (p_move rfl) rfl rfl rfl ?_
                    refine s1 (p_nilCheck rfl) rfl rfl rfl ?_
                    refine s1 (p_fieldAddr (fun w => fa80_2 _ w) rfl) rfl rfl rfl ?_
                    refine s1 (p_fieldAddr (fun w => fb48_0 _ w) rfl) rfl rfl rfl ?_
                    refine s_step0 (st_store rfl rfl rfl sz3 (by simp)) rfl rfl ?_
                    rintro _ _ rfl
                    refine s_nil ?_
                    refine x_block ?_
                    refine x_block ?_
                    refine x_block ?_
                    exact x_cut ⟨_, 4, .slice none 0 0, PV⟩ (⟨by dsimp only; unfold Tif.kindOf; rw [if_neg (by omega), if_neg (by omega), if_neg (show ¬ t.alpha = 2 from by omega), if_pos (by omega)]; rfl, .inl ⟨by omega, rfl⟩⟩) ⟨rfl, trivial⟩ ((f1).trans f1)
                  · refine c_region ?_
                    refine s1 (p_move rfl) rfl rfl rfl ?_
                    refine s1 (p_nilCheck rfl) rfl rfl rfl ?_
                    refine s1 (p_fieldAddr (fun w => fa80_2 _ w) rfl) rfl rfl rfl ?_
                    refine s1 (p_fieldAddr (fun w => fb48_0 _ w) rfl) rfl rfl rfl ?_
                    refine s_step0 (st_store rfl rfl rfl sz3 (by simp)) rfl rfl ?_
                    rintro _ _ rfl
                    refine s_nil ?_
                    refine x_block ?_
                    refine x_block ?_
                    refine x_block ?_
                    exact x_cut ⟨_, 3, .slice none 0 0, PV⟩ (⟨by dsimp only; unfold Tif.kindOf; rw [if_neg (by omega), if_neg (by omega), if_neg (show ¬ t.alpha = 2 from by omega), if_neg (by omega)]; rfl, .inl ⟨by omega, rfl⟩⟩) ⟨rfl, trivial⟩ ((f1).trans f1)
                · refine c_seq ?_
                  refine c_region ?_
                  refine s1 (pb_true (p_eq rfl rfl) (by omega)) rfl rfl rfl ?_
                  refine s1 (p_assign rfl) rfl rfl rfl ?_
                  refine s_nil ?_
                  refine x_next ?_
                  refine c_true rfl ?_
                  refine c_seq ?_
                  refine c_region ?_
                  refine s1 (p_move rfl) rfl rfl rfl ?_
                  refine s1 (p_nilCheck rfl) rfl rfl rfl ?_
                  refine s1 (p_fieldAddr (fun w => fa80_3 _ w) rfl) rfl rfl rfl ?_
                  refine s_step0 (st_store rfl rfl rfl sz77 (by simp)) rfl rfl ?_
                  rintro _ _ rfl
                  refine s_nil ?_
                  refine x_next ?_
                  refine c_seq ?_
                  refine c_region ?_
                  refine s1 (p_move rfl) rfl rfl rfl ?_
                  refine s1 (p_nilCheck rfl) rfl rfl rfl ?_
                  refine s1 (p_fieldAddr (fun w => fa80_4 _ w) rfl) rfl rfl rfl ?_
                  refine s1 (p_load m0 Tryz.underlying59 rfl rfl rfl) rfl rfl rfl ?_
                  refine s1 (p_eq rfl rfl) rfl rfl rfl ?_
                  refine s_nil ?_
                  refine x_next ?_
                  refine c_if rfl (fun h280 => ?_) (fun h280 => ?_)
                  · refine c_region ?_
                    refine s1 (p_move rfl) rfl rfl rfl ?_
                    refine s1 (p_nilCheck rfl) rfl rfl rfl ?_
                    refine s1 (p_fieldAddr (fun w => fa80_2 _ w) rfl) rfl rfl rfl ?_
                    refine s1 (p_fieldAddr (fun w => fb48_0 _ w) rfl) rfl rfl rfl ?_
                    refine s_step0 (st_store rfl rfl rfl sz3 (by simp)) rfl rfl ?_
                    rintro _ _ rfl
                    refine s_nil ?_
                    refine x_block ?_
                    refine x_block ?_
                    refine x_block ?_
                    exact x_cut ⟨_, 6, .slice none 0 0, PV⟩ (⟨by dsimp only; unfold Tif.kindOf; rw [if_neg (by omega), if_neg (by omega), if_pos (show t.alpha = 2 by have := hok.a; omega), if_pos (by omega)]; rfl, .inl ⟨by omega, rfl⟩⟩) ⟨rfl, trivial⟩ ((f1).trans f1)
                  · refine c_region ?_
                    refine s1 (p_move rfl) rfl rfl rfl ?_
                    refine s1 (p_nilCheck rfl) rfl rfl rfl ?_
                    refine s1 (p_fieldAddr (fun w => fa80_2 _ w) rfl) rfl rfl rfl ?_
                    refine s1 (p_fieldAddr (fun w => fb48_0 _ w) rfl) rfl rfl rfl ?_
                    refine s_step0 (st_store rfl rfl rfl sz3 (by simp)) rfl rfl ?_
                    rintro _ _ rfl
                    refine s_nil ?_
                    refine x_block ?_
                    refine x_block ?_
                    refine x_block ?_
                    exact x_cut ⟨_, 5, .slice none 0 0, PV⟩ (⟨by dsimp only; unfold Tif.kindOf; rw [if_neg (by omega), if_neg (by omega), if_pos (show t.alpha = 2 by have := hok.a; omega), if_neg (by omega)]; rfl, .inl ⟨by omega, rfl⟩⟩) ⟨rfl, trivial⟩ ((f1).trans f1)
          · refine c_seq ?_
            refine c_region ?_
            refine s1 (p_eq rfl rfl) rfl rfl rfl ?_
            refine s1 (p_assign rfl) rfl rfl rfl ?_
            refine s_nil ?_
            refine x_next ?_
            refine c_if rfl (fun h289 => ?_) (fun h289 => ?_)
            · refine c_seq ?_
              refine c_region ?_
              refine s1 (p_move rfl) rfl rfl rfl ?_
              refine s1 (p_nilCheck rfl) rfl rfl rfl ?_
              refine s1 (p_fieldAddr (fun w => fa80_3 _ w) rfl) rfl rfl rfl ?_
              refine s_step0 (st_store rfl rfl rfl sz77 (by simp)) rfl rfl ?_
              rintro _ _ rfl
              refine s_nil ?_
              refine x_next ?_
              obtain ⟨PA, pc, rfl, hpr⟩ : ∃ PA pc, PV = .slice PA 256 pc ∧ ∀ w, Sat w X → Reads w (.slice PA 256 pc) 1 256 (pal.map ifc) := by
                rcases hpv with ⟨h, _⟩ | ⟨_, h⟩
                · exact absurd h289 h
                · exact h
              refine c_region ?_
              refine s1 (p_move rfl) rfl rfl rfl ?_
              refine s1 (p_move rfl) rfl rfl rfl ?_
              refine s1 (p_move rfl) rfl rfl rfl ?_
              refine s1 (p_nilCheck rfl) rfl rfl rfl ?_
              refine s1 (p_fieldAddr (fun w => fa80_6 _ w) rfl) rfl rfl rfl ?_
              refine s1 (p_load m0 Tryz.underlying45 rfl rfl rfl) rfl rfl rfl ?_
              refine s1 (p_nilCheck rfl) rfl rfl rfl ?_
              refine s1 (p_fieldAddr (fun w => fa80_2 _ w) rfl) rfl rfl rfl ?_
              refine s1 (p_fieldAddr (fun w => fb48_0 _ w) rfl) rfl rfl rfl ?_
              refine s_step0 (st_store rfl rfl rfl sz3 (by simp)) rfl rfl ?_
              rintro _ _ rfl
              refine s1 (p_nilCheck rfl) rfl rfl rfl ?_
              refine s1 (p_fieldAddr (fun w => fa80_2 _ w) rfl) rfl rfl rfl ?_
              refine s1 (p_fieldAddr (fun w => fb48_1 _ w) rfl) rfl rfl rfl ?_
              refine s_step0 (st_store rfl rfl rfl sz46 (by simp)) rfl rfl ?_
              rintro _ _ rfl
              refine s_nil ?_
              refine x_block ?_
              exact x_cut ⟨_, 7, .slice PA 256 pc, .slice PA 256 pc⟩ (⟨by dsimp only; unfold Tif.kindOf; rw [if_neg (by omega), if_pos h289], .inr ⟨h289, PA, pc, rfl, hpr⟩⟩) ⟨rfl, trivial⟩ ((f1).trans f1)
            · refine c_seq ?_
              refine c_region ?_
              refine s1 (p_eq rfl rfl) rfl rfl rfl ?_
              refine s1 (p_assign rfl) rfl rfl rfl ?_
              refine s_nil ?_
              refine x_next ?_
              refine c_if rfl (fun h306 => ?_) (fun h306 => ?_)
              · refine c_seq ?_
                refine c_region ?_
                refine s1 (p_move rfl) rfl rfl rfl ?_
                refine s1 (p_nilCheck rfl) rfl rfl rfl ?_
                refine s1 (p_fieldAddr (fun w => fa80_3 _ w) rfl) rfl rfl rfl ?_
                refine s_step0 (st_store rfl rfl rfl sz77 (by simp)) rfl rfl ?_
                rintro _ _ rfl
                refine s_nil ?_
                refine x_next ?_
                refine c_seq ?_
                refine c_region ?_
                refine s1 (p_move rfl) rfl rfl rfl ?_
                refine s1 (p_nilCheck rfl) rfl rfl rfl ?_
                refine s1 (p_fieldAddr (fun w => fa80_4 _ w) rfl) rfl rfl rfl ?_
                refine s1 (p_load m0 Tryz.underlying59 rfl rfl rfl) rfl rfl rfl ?_
                refine s1 (p_eq rfl rfl) rfl rfl rfl ?_
                refine s_nil ?_
                refine x_next ?_
                refine c_if rfl (fun h315 => ?_) (fun h315 => ?_)
                · refine c_region ?_
                  refine s1 (p_move rfl) rfl rfl rfl ?_
                  refine s1 (p_nilCheck rfl) rfl rfl rfl ?_
                  refine s1 (p_fieldAddr (fun w => fa80_2 _ w) rfl) rfl rfl rfl ?_
                  refine s1 (p_fieldAddr (fun w => fb48_0 _ w) rfl) rfl rfl rfl ?_
                  refine s_step0 (st_store rfl rfl rfl sz3 (by simp)) rfl rfl ?_
                  rintro _ _ rfl
                  refine s_nil ?_
                  refine x_block ?_
                  exact x_cut ⟨_, 2, .slice none 0 0, PV⟩ (⟨by dsimp only; unfold Tif.kindOf; rw [if_pos (by omega), if_pos (by omega)]; rfl, .inl ⟨by omega, rfl⟩⟩) ⟨rfl, trivial⟩ ((f1).trans f1)
                · refine c_region ?_
                  refine s1 (p_move rfl) rfl rfl rfl ?_
                  refine s1 (p_nilCheck rfl) rfl rfl rfl ?_
                  refine s1 (p_fieldAddr (fun w => fa80_2 _ w) rfl) rfl rfl rfl ?_
                  refine s1 (p_fieldAddr (fun w => fb48_0 _ w) rfl) rfl rfl rfl ?_
                  refine s_step0 (st_store rfl rfl rfl sz3 (by simp)) rfl rfl ?_
                  rintro _ _ rfl
                  refine s_nil ?_
                  refine x_block ?_
                  exact x_cut ⟨_, 1, .slice none 0 0, PV⟩ (⟨by dsimp only; unfold Tif.kindOf; rw [if_pos (by omega), if_neg (by omega)]; rfl, .inl ⟨by omega, rfl⟩⟩) ⟨rfl, trivial⟩ ((f1).trans f1)
              · refine c_seq ?_
                refine c_region ?_
                refine s1 (pb_true (p_eq rfl rfl) (by omega)) rfl rfl rfl ?_
                refine s1 (p_assign rfl) rfl rfl rfl ?_
                refine s_nil ?_
                refine x_next ?_
                refine c_true rfl ?_
                refine c_seq ?_
                refine c_region ?_
                refine s1 (p_move rfl) rfl rfl rfl ?_
                refine s1 (p_nilCheck rfl) rfl rfl rfl ?_
                refine s1 (p_fieldAddr (fun w => fa80_3 _ w) rfl) rfl rfl rfl ?_
                refine s_step0 (st_store rfl rfl rfl sz77 (by simp)) rfl rfl ?_
                rintro _ _ rfl
                refine s_nil ?_
                refine x_next ?_
                refine c_seq ?_
                refine c_region ?_
                refine s1 (p_move rfl) rfl rfl rfl ?_
                refine s1 (p_nilCheck rfl) rfl rfl rfl ?_
                refine s1 (p_fieldAddr (fun w => fa80_4 _ w) rfl) rfl rfl rfl ?_
                refine s1 (p_load m0 Tryz.underlying59 rfl rfl rfl) rfl rfl rfl ?_
                refine s1 (p_eq rfl rfl) rfl rfl rfl ?_
                refine s_nil ?_
                refine x_next ?_
                refine c_if rfl (fun h333 => ?_) (fun h333 => ?_)
                · refine c_region ?_
                  refine s1 (p_move rfl) rfl rfl rfl ?_
                  refine s1 (p_nilCheck rfl) rfl rfl rfl ?_
                  refine s1 (p_fieldAddr (fun w => fa80_2 _ w) rfl) rfl rfl rfl ?_
                  refine s1 (p_fieldAddr (fun w => fb48_0 _ w) rfl) rfl rfl rfl ?_
                  refine s_step0 (st_store rfl rfl rfl sz3 (by simp)) rfl rfl ?_
                  rintro _ _ rfl
                  refine s_nil ?_
                  refine x_block ?_
                  exact x_cut ⟨_, 2, .slice none 0 0, PV⟩ (⟨by dsimp only; unfold Tif.kindOf; rw [if_pos (by omega), if_pos (by omega)]; rfl, .inl ⟨by omega, rfl⟩⟩) ⟨rfl, trivial⟩ ((f1).trans f1)
                · refine c_region ?_
                  refine s1 (p_move rfl) rfl rfl rfl ?_
                  refine s1 (p_nilCheck rfl) rfl rfl rfl ?_
                  refine s1 (p_fieldAddr (fun w => fa80_2 _ w) rfl) rfl rfl rfl ?_
                  refine s1 (p_fieldAddr (fun w => fb48_0 _ w) rfl) rfl rfl rfl ?_
                  refine s_step0 (st_store rfl rfl rfl sz3 (by simp)) rfl rfl ?_
                  rintro _ _ rfl
                  refine s_nil ?_
                  refine x_block ?_
                  exact x_cut ⟨_, 1, .slice none 0 0, PV⟩ (⟨by dsimp only; unfold Tif.kindOf; rw [if_pos (by omega), if_neg (by omega)]; rfl, .inl ⟨by omega, rfl⟩⟩) ⟨rfl, trivial⟩ ((f1).trans f1)
        · rintro ⟨mode, kind, CP, PV2⟩ hI
          replace hI : kind = t.kindOf ∧ PalV t pal CP X := hI
          obtain ⟨hkind, hcp⟩ := hI
          refine c_sub (L' := [(4, .pointer (some ⟨gd, 0, none⟩))]) ⟨rfl, trivial⟩ ?_
          refine c_perm (T := blk gd [.iface 53 (.pointer (some ⟨gr, 0, none⟩)), ordV big, .int .i64 (kind), CP, .int .i64 (t.wide), .int .i64 (t.high), .int .i64 (mode), .int .u64 (t.depth), .map (some r), PV2, .slice none 0 0, .int .i64 0, .int .u32 0, .int .u64 0] 80 :: mp r ks :: (X ++ F)) f0 ?_
          refine c_seq ?_
          refine c_seq ?_
          refine c_region ?_
          refine s1 (p_move rfl) rfl rfl rfl ?_
          refine s_step (st_call Tryz.func33 nm33 bo33 rfl (firstVal_spec gd r _ ks m0 rfl m1 262 U262 1 c262 [t.colour] rfl (by first | decide | (simp; omega)) l262 (fun w h => r262 w h.tail.tail))) rfl rfl rfl ?_
          rintro _ _ ⟨rfl, rfl⟩
          rw [show ([t.colour] : List Int).getD 0 0 = t.colour from rfl]
          refine s1 (p_ne rfl rfl) rfl rfl rfl ?_
          refine s_nil ?_
          refine x_next ?_
          refine c_if rfl (fun h344 => ?_) (fun h344 => ?_)
          · refine c_seq ?_
            have hch1 : (List.replicate t.chan.toNat t.depth).length = 1 := by
              have := hc1 h344
              omega
            refine c_region ?_
            refine s1 (p_move rfl) rfl rfl rfl ?_
            refine s1 (p_nilCheck rfl) rfl rfl rfl ?_
            refine s1 (p_fieldAddr (fun w => fa80_5 _ w) rfl) rfl rfl rfl ?_
            refine s1 (p_load m0 Tryz.underlying78 rfl rfl rfl) rfl rfl rfl ?_
            refine s1 (p_lookup m1 Tryz.underlying78 Tryz.underlying3 rfl rfl l258) rfl rfl rfl ?_
            refine s1 (p_len Tryz.underlying107 rfl) rfl rfl rfl ?_
            refine s1 (pb_false (p_ne rfl rfl) (by omega)) rfl rfl rfl ?_
            refine s_nil ?_
            refine x_next ?_
            refine c_false rfl ?_
            refine c_skip ?_
            refine x_next ?_
            refine c_seq ?_
            refine c_region ?_
            refine s1 (p_move rfl) rfl rfl rfl ?_
            refine s1 (p_assign rfl) rfl rfl rfl ?_
            refine s1 (p_assign rfl) rfl rfl rfl ?_
            refine s_nil ?_
            refine x_next ?_
            refine c_ret ?_
            exact x_done_two rfl rfl rfl ⟨gd, _, _, CP, _, mp r ks :: X, rfl, by rw [hkind]; rfl, hcp.tail⟩
          · refine c_skip ?_
            refine x_next ?_
            refine c_seq ?_
            refine c_region ?_
            refine s1 (p_move rfl) rfl rfl rfl ?_
            refine s1 (p_assign rfl) rfl rfl rfl ?_
            refine s1 (p_assign rfl) rfl rfl rfl ?_
            refine s_nil ?_
            refine x_next ?_
            refine c_ret ?_
            exact x_done_two rfl rfl rfl ⟨gd, _, _, CP, _, mp r ks :: X, rfl, by rw [hkind]; rfl, hcp.tail⟩

end V
end Go.Proofs.YtaflcjoagfnhfaaGreatDoor
