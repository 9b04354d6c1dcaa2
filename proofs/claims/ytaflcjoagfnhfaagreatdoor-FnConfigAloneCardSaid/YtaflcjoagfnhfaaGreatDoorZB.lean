/- Walks: the configuration of a file; the law's file. -/
import Derived.Test.YtaflcjoagfnhfaaGreatDoorZA
namespace Go.Proofs.YtaflcjoagfnhfaaGreatDoor
namespace V
open Go Go.Proofs

section
variable {P : Program} {L : Env} {S : List As} {dst : Option Tmp} {ty : TypeId} {pos : String} {af : Array Edge} {gd : Option (Nat × Bool)}
/-- A struct within a struct. -/
theorem p_loadAo {x : Operand} {T : TypeId} {d : TypeDesc} {g o q : Nat} {cs us : List Value} {t : TypeId} (h : blk g cs t ∈ S) (ht : P.underlying T = some d) (hd : scalar d = false) (hz : (P.info? T).map (·.size) = some q)
    (hx : ev L x = some (.pointer (some ⟨g, o, none⟩))) (hq : us.length = q) (hk : ∀ j u, us[j]? = some u → cs[o + j]? = some u) : Pure1 P L S ⟨dst, .load T x, ty, pos, af, gd⟩ (.agg us.toArray) := by
  intro ρ w hA hS
  obtain ⟨i0, hi0, hi1⟩ := Option.map_eq_some_iff.1 hz
  have hl := run_loadCells_list (P := P) w ⟨g, o, none⟩ us (fun j u hj => by rw [add_lit']; exact blk_cell' h hS (hk j u hj))
  rw [hq] at hl
  have h1 : (loadVar T ⟨g, o, none⟩).run P w = .ok (.agg us.toArray) w := by
    cases d <;> simp_all [loadVar, isAgg, run_underlying ht, scalar, sizeOf, typeInfo]
  simp [execOp, hA x _ hx, Instr.loadAt, Instr.sureAddr, h1]
end
def palOf (t : Tif) (pal : List RGB) : List RGB := if t.colour = 3 then pal else []
theorem reads_nil (w : World) : Reads w (.slice none 0 0) 1 0 [] := ⟨rfl, by omega, none, 0, rfl, Nat.le_refl _, by omega, fun h => absurd h (Nat.lt_irrefl _)⟩
theorem PalV.reads {t : Tif} {pal : List RGB} {PV : Value} {G : List As} (hpal : pal.length = 256) (h : PalV t pal PV G) : ∃ PA pc, PV = .slice PA (palOf t pal).length pc ∧ ∀ w, Sat w G → Reads w (.slice PA (palOf t pal).length pc) 1 (palOf t pal).length ((palOf t pal).map ifc) := by
  unfold palOf
  rcases h with ⟨h, rfl⟩ | ⟨h, PA, pc, rfl, h2⟩
  · rw [if_neg h]; exact ⟨none, 0, rfl, fun w _ => reads_nil w⟩
  · rw [if_pos h, hpal]; exact ⟨PA, pc, rfl, h2⟩
theorem back2 {w : World} {a b : As} {X F : List As} (h : Sat w (a :: b :: (X ++ F))) : Sat w (a :: F) :=
  h.perm_cons (fun _ hC => List.mem_cons_of_mem _ (List.mem_append_right _ hC)) (sat_app h.tail.tail)
theorem back4 {w : World} {a b : As} {X F : List As} {c d : As} (h : Sat w (a :: b :: (X ++ c :: d :: F))) : Sat w (a :: F) := by
  have h2 := back2 h
  exact h2.perm_cons (fun _ hC => List.mem_cons_of_mem _ (List.mem_cons_of_mem _ hC)) h2.tail.tail.tail
theorem shDepth0_or (f : Int) : shDepth0 f = 8 ∨ shDepth0 f = 16 ∨ shDepth0 f = 1 := by
  unfold shDepth0
  obtain ⟨k, hk⟩ : ∃ k, (f / 8 % 4).toNat = k := ⟨_, rfl⟩
  rw [hk]
  rcases (show k = 0 ∨ k = 1 ∨ k = 2 ∨ k = 3 by omega) with rfl | rfl | rfl | rfl <;> simp
theorem shPack_in (f : Int) : 0 ≤ shPack f ∧ shPack f ≤ 65535 := by
  unfold shPack
  obtain ⟨k, hk⟩ : ∃ k, (f / 128 % 5).toNat = k := ⟨_, rfl⟩
  rw [hk]
  rcases (show k = 0 ∨ k = 1 ∨ k = 2 ∨ k = 3 ∨ k = 4 by omega) with rfl | rfl | rfl | rfl | rfl <;> simp
theorem shDepth_or (f : Int) : (shDepth f = 1 ∨ shDepth f = 8 ∨ shDepth f = 16) ∧ (shColour f = 3 → shDepth f = 8) ∧ (shColour f = 2 → shDepth f ≠ 1) := by
  have h := shDepth0_or f
  unfold shDepth
  refine ⟨?_, fun h3 => by rw [if_pos h3], fun h2 => by rw [if_neg (by omega), if_pos h2]; omega⟩
  split
  · omega
  · split <;> omega
theorem shAlpha_in (f : Int) : 0 ≤ shAlpha f ∧ shAlpha f ≤ 2 := by
  unfold shAlpha
  split
  · omega
  · split <;> omega
theorem shp_ok {f w h : Int} (_hf : 0 ≤ f ∧ f ≤ 4294967295) (_hw : 0 ≤ w ∧ w ≤ 255) (_hh : 0 ≤ h ∧ h ≤ 255) : (shp f w h).Ok := by
  obtain ⟨d1, d2, d3⟩ := shDepth_or f
  have ha := shAlpha_in f
  have hp := shPack_in f
  have hc : 0 ≤ shColour f ∧ shColour f ≤ 3 := by unfold shColour; omega
  have hm1 : 0 ≤ f / 8192 % (1 + h % 40) := Int.emod_nonneg _ (by omega)
  have hm2 : f / 8192 % (1 + h % 40) < 1 + h % 40 := Int.emod_lt_of_pos _ (by omega)
  unfold shp
  split
  · refine ⟨?_, by dsimp only; omega, hc, ha, d1, d2, d3, hp, .inr (by dsimp only; omega), by dsimp only; omega⟩
    dsimp only
    have h1 : f / 1048576 % 2 = 0 ∨ f / 1048576 % 2 = 1 := by omega
    rcases h1 with h1 | h1 <;> rw [h1] <;> omega
  · exact ⟨by dsimp only; omega, by dsimp only; omega, hc, ha, d1, d2, d3, hp, .inl rfl, by dsimp only; omega⟩

set_option maxRecDepth 100000 in
theorem shadesOf_spec {F : List As} (A : Option Addr) (N c : Nat) (l : List RGB) (hl : l.length = N) (hN : N ≤ 1000000) (hby : ∀ x ∈ l, inB x) (hr : ∀ w, Sat w F → Reads w (.slice A N c) 1 N (l.map ifc)) :
    Fun Tryz.prog 18 [.slice A N c] (F) (fun u T => ∃ B cb, u = .slice B N cb ∧ T = own (.slice B N cb) 31 4 N (l.flatMap p4) :: F) := by
  refine fun_intro Tryz.func18 rfl Tryz.ntmps18 (Nat.le_of_ble_eq_true rfl) ?_
  refine c_seq ?_
  refine c_region ?_
  refine s1 (p_assign rfl) rfl rfl rfl ?_
  refine s_nil ?_
  refine x_next ?_
  refine c_seq ?_
  refine c_region ?_
  refine s1 (p_assign rfl) rfl rfl rfl ?_
  refine s_nil ?_
  refine c_sat (fun w h => sat_nil 31 4 w h) ?_
  refine x_next ?_
  refine c_seq ?_
  refine c_seq ?_
  refine c_region ?_
  refine s1 (p_move rfl) rfl rfl rfl ?_
  refine s1 (p_len Tryz.underlying46 rfl) rfl rfl rfl ?_
  refine s1 (p_move rfl) rfl rfl rfl ?_
  refine s_nil ?_
  refine x_next ?_
  refine c_block ?_
  refine c_loop (α := (Option Addr) × (Nat) × (Nat)) (fun gg => gg.2.1 ≤ N) (fun gg => N - gg.2.1) (fun gg => [(0, .slice A N c), (3, .slice gg.1 gg.2.1 gg.2.2), (10, .slice A N c), (11, .int .i64 (N : Int)), (12, .int .i64 (gg.2.1 : Int))]) (fun gg => own (.slice gg.1 gg.2.1 gg.2.2) 31 4 gg.2.1 ((l.take gg.2.1).flatMap p4) :: F) ⟨none, 0, 0⟩ (Nat.zero_le _) ⟨rfl, rfl, rfl, rfl, rfl, trivial⟩ (f0) ?_
  rintro ⟨B, k, cb⟩ hI
  replace hI : k ≤ N := hI
  have hk := hI
  refine c_sub (L' := [(0, .slice A N c), (3, .slice B k cb), (10, .slice A N c), (11, .int .i64 (N : Int)), (12, .int .i64 (k : Int))]) ⟨rfl, rfl, rfl, rfl, rfl, trivial⟩ ?_
  refine c_perm (T := own (.slice B k cb) 31 4 k ((l.take k).flatMap p4) :: F) f0 ?_
  refine c_seq ?_
  refine c_region ?_
  refine s1 (p_lt rfl rfl) rfl rfl rfl ?_
  refine s_nil ?_
  refine x_next ?_
  refine c_seq ?_
  refine c_if rfl (fun h13 => ?_) (fun h13 => ?_)
  · refine c_skip ?_
    refine x_next ?_
    refine c_seq ?_
    refine c_block ?_
    refine c_seq ?_
    obtain ⟨x, hx⟩ : ∃ x, l[k]? = some x := ⟨_, List.getElem?_eq_getElem (by omega)⟩
    obtain ⟨hr0, hg0, hb0⟩ := hby x (List.mem_of_getElem? hx)
    refine c_region ?_
    refine s1 (p_index (kk := k) Tryz.underlying46 sz89 rfl rfl (rd_tail hr) (by omega) (by omega) (by omega)) rfl rfl rfl ?_
    refine s1 (p_loadE (u := ifc x) Tryz.underlying89 rfl rfl (rd_tail hr) (by rw [List.getElem?_map, hx]; rfl)) rfl rfl rfl ?_
    refine s1 (p_assign rfl) rfl rfl rfl ?_
    refine s_nil ?_
    refine x_next ?_
    refine c_seq ?_
    refine c_region ?_
    refine s1 (p_move rfl) rfl rfl rfl ?_
    refine s_step (st_invoke Tryz.func103 nm103 bo103 rfl (fun w _ => mtRGBA _ _ _ _ w) rfl (rgba_spec _ _ _ _ (by omega) (by omega) (by omega) (by omega))) rfl rfl rfl ?_
    rintro _ _ ⟨rfl, rfl⟩
    refine s1 (p_move rfl) rfl rfl rfl ?_
    refine s1 (p_extract rfl rfl) rfl rfl rfl ?_
    refine s1 (p_extract rfl rfl) rfl rfl rfl ?_
    refine s1 (p_extract rfl rfl) rfl rfl rfl ?_
    refine s1 (p_extract rfl rfl) rfl rfl rfl ?_
    refine s1 (p_assign rfl) rfl rfl rfl ?_
    refine s1 (p_assign rfl) rfl rfl rfl ?_
    refine s1 (p_assign rfl) rfl rfl rfl ?_
    refine s1 (p_assign rfl) rfl rfl rfl ?_
    refine s_nil ?_
    refine x_next ?_
    refine c_region ?_
    refine s1 (p_move rfl) rfl rfl rfl ?_
    refine s1 (p_move rfl) rfl rfl rfl ?_
    refine s1 (p_shr rfl rfl (by omega) (shr32 (d := 256) rfl (by omega))) rfl rfl rfl ?_
    refine s1 (p_conv Tryz.underlying22 Tryz.underlying5 rfl (show IntKind.u8.wrap (257 * x.1 / 256) = x.1 by rw [wu8 (by omega)]; omega)) rfl rfl rfl ?_
    refine s1 (p_move rfl) rfl rfl rfl ?_
    refine s1 (p_shr rfl rfl (by omega) (shr32 (d := 256) rfl (by omega))) rfl rfl rfl ?_
    refine s1 (p_conv Tryz.underlying22 Tryz.underlying5 rfl (show IntKind.u8.wrap (257 * x.2.1 / 256) = x.2.1 by rw [wu8 (by omega)]; omega)) rfl rfl rfl ?_
    refine s1 (p_move rfl) rfl rfl rfl ?_
    refine s1 (p_shr rfl rfl (by omega) (shr32 (d := 256) rfl (by omega))) rfl rfl rfl ?_
    refine s1 (p_conv Tryz.underlying22 Tryz.underlying5 rfl (show IntKind.u8.wrap (257 * x.2.2 / 256) = x.2.2 by rw [wu8 (by omega)]; omega)) rfl rfl rfl ?_
    refine s1 (p_move rfl) rfl rfl rfl ?_
    refine s1 (p_shr rfl rfl (by omega) (show _ = (255 : Int) from rfl)) rfl rfl rfl ?_
    refine s1 (p_conv Tryz.underlying22 Tryz.underlying5 rfl (show IntKind.u8.wrap 255 = 255 from rfl)) rfl rfl rfl ?_
    refine s1 (p_build rfl (fun w => bd31_4 _ _ _ _ w)) rfl rfl rfl ?_
    refine s_step (st_buildSlice (e := 31) (size := 4) rfl (fun w => bs26_1 _ _ _ _ w) rfl (by omega)) rfl rfl rfl ?_
    rintro _ _ ⟨g2, rfl, rfl⟩
    refine s_perm f1 ?_
    refine s_step (st_append (xs := (l.take k).flatMap p4) Tryz.underlying26 inf31 rfl (by omega) rfl rfl (rd_own m1) (by simp [Value.oneCell']) ⟨by omega, by omega⟩) rfl rfl rfl ?_
    rintro _ _ ⟨A2, c2, rfl, rfl⟩
    refine s_perm f1 ?_
    refine s_sat drop0 ?_
    rw [show (l.take k).flatMap p4 ++ [Value.int .u8 x.1, .int .u8 x.2.1, .int .u8 x.2.2, .int .u8 255] = (l.take (k + 1)).flatMap p4 from flat_take hx]
    refine s1 (p_assign rfl) rfl rfl rfl ?_
    refine s_nil ?_
    refine x_block ?_
    refine x_next ?_
    refine c_region ?_
    refine s1 (p_add rfl rfl (w64 (by omega))) rfl rfl rfl ?_
    refine s1 (p_move rfl) rfl rfl rfl ?_
    refine s_nil ?_
    exact x_loop ⟨A2, k + 1, c2⟩ (by first | omega | (dsimp only; omega)) (by first | omega | (dsimp only; omega)) ⟨rfl, rfl, rfl, rfl, rfl, trivial⟩ (f0)
  · refine c_exit ?_
    refine x_exit_then ?_
    refine x_exit_then ?_
    refine x_exit_here ?_
    refine x_next ?_
    refine c_seq ?_
    refine c_region ?_
    refine s1 (p_move rfl) rfl rfl rfl ?_
    refine s1 (p_assign rfl) rfl rfl rfl ?_
    refine s_nil ?_
    refine x_next ?_
    refine c_ret ?_
    obtain rfl : k = N := by omega
    exact x_done_one rfl rfl ⟨B, cb, rfl, by rw [List.take_of_length_le (by omega)]⟩

set_option maxRecDepth 100000 in
theorem decodeConfig_spec {F : List As} (gr : Nat) (t : Tif) (hok : t.Ok) (pal : List RGB) (hpal : pal.length = 256) (hin : ∀ x ∈ pal, inB x) (A : Option Addr) (N c : Nat) (l : List Int) (hl : l.length = N) (hN : N ≤ 1000000000) (hlaid : Laid t pal l) (hb : blk gr [.slice A N c, .int .i64 0, .int .i64 (-1)] 82 ∈ F) (hr : ∀ w, Sat w F → Reads w (.slice A N c) 1 N (by8 l)) (hlen : ∀ w, Sat w F → ∀ o u, lens[o]? = some u → w.cell? ⟨5, o, none⟩ = some u) :
    Fun Tryz.prog 14 [.iface 53 (.pointer (some ⟨gr, 0, none⟩))] (F) (fun u T => ∃ PA pc X, u = .tuple #[.agg [.int .i64 t.kindOf, .slice PA (palOf t pal).length pc, .int .i64 t.wide, .int .i64 t.high].toArray, .nilIface] ∧ (∀ w, Sat w X → Reads w (.slice PA (palOf t pal).length pc) 1 (palOf t pal).length ((palOf t pal).map ifc)) ∧ T = X ++ F) := by
  refine fun_intro Tryz.func14 rfl Tryz.ntmps14 (Nat.le_of_ble_eq_true rfl) ?_
  refine c_seq ?_
  refine c_region ?_
  refine s_step (st_alloc ze48) rfl rfl rfl ?_
  rintro _ _ ⟨gc, rfl, rfl⟩
  refine s1 (p_assign rfl) rfl rfl rfl ?_
  refine s_nil ?_
  refine x_next ?_
  refine c_seq ?_
  refine c_region ?_
  refine s1 (p_move rfl) rfl rfl rfl ?_
  refine s_step (st_call Tryz.func25 nm25 bo25 rfl (newDecoder_spec gr t hok pal hpal hin A N c l hl hN hlaid (List.mem_cons_of_mem _ hb) (fun w h => hr w h.tail) (fun w h => hlen w h.tail))) rfl rfl rfl ?_
  rintro _ _ ⟨gd, a, b, PV, tl, X, rfl, rfl, hpv⟩
  obtain ⟨PA, pc, rfl, hrp⟩ := hpv.reads hpal
  refine s_perm ((List.Perm.cons _ List.perm_middle).trans f1) ?_
  refine s1 (p_move rfl) rfl rfl rfl ?_
  refine s1 (p_extract rfl rfl) rfl rfl rfl ?_
  refine s1 (p_extract rfl rfl) rfl rfl rfl ?_
  refine s1 (p_assign rfl) rfl rfl rfl ?_
  refine s1 (p_assign rfl) rfl rfl rfl ?_
  refine s_nil ?_
  refine x_next ?_
  refine c_seq ?_
  refine c_seq ?_
  refine c_region ?_
  refine s1 (p_move rfl) rfl rfl rfl ?_
  refine s1 (p_errnil Tryz.underlying50 rfl) rfl rfl rfl ?_
  refine s_nil ?_
  refine x_next ?_
  refine c_false rfl ?_
  refine c_skip ?_
  refine x_next ?_
  refine c_seq ?_
  obtain ⟨nn, hnn⟩ : ∃ n, (palOf t pal).length = n := ⟨_, rfl⟩
  refine c_region ?_
  refine s1 (p_move rfl) rfl rfl rfl ?_
  refine s1 (p_nilCheck rfl) rfl rfl rfl ?_
  refine s1 (p_fieldAddr (fun w => fa80_2 _ w) rfl) rfl rfl rfl ?_
  refine s1 (p_loadAo (o := 2) (us := [.int .i64 t.kindOf, .slice PA (palOf t pal).length pc, .int .i64 t.wide, .int .i64 t.high]) m1 Tryz.underlying48 rfl sz48 rfl rfl (fun j u hj => by have hlt := (List.getElem?_eq_some_iff.1 hj).1; rw [Nat.add_comm]; show ([.int .i64 t.kindOf, .slice PA (palOf t pal).length pc, .int .i64 t.wide, .int .i64 t.high] ++ tl)[j]? = some u; rw [List.getElem?_append_left hlt]; exact hj)) rfl rfl rfl ?_
  refine s_step0 (st_storeA rfl rfl rfl sz48 rfl) rfl rfl ?_
  rintro _ _ rfl
  refine s1 (p_assign rfl) rfl rfl rfl ?_
  refine s_nil ?_
  refine x_next ?_
  refine c_ret ?_
  refine x_done_cell2 rfl rfl rfl m0 Tryz.underlying48 rfl sz48 ?_
  exact ⟨PA, pc, _ :: _ :: X, rfl, fun w h => hrp w h.tail.tail, rfl⟩

set_option maxRecDepth 100000 in
theorem config_spec {F : List As} (t : Tif) (hok : t.Ok) (pal : List RGB) (hpal : pal.length = 256) (hin : ∀ x ∈ pal, inB x) (A : Option Addr) (N c : Nat) (l : List Int) (hl : l.length = N) (hN : 1 ≤ N ∧ N ≤ 1000000000) (hlaid : Laid t pal l) (hr : ∀ w, Sat w F → Reads w (.slice A N c) 1 N (by8 l)) (hlen : ∀ w, Sat w F → ∀ o u, lens[o]? = some u → w.cell? ⟨5, o, none⟩ = some u) :
    Fun Tryz.prog 6 [.slice A N c] (F) (fun u T => ∃ QA qc, u = .tuple #[.int .i64 t.kindOf, .int .i64 t.wide, .int .i64 t.high, .slice QA (palOf t pal).length qc, .int .i64 0] ∧ T = own (.slice QA (palOf t pal).length qc) 31 4 (palOf t pal).length ((palOf t pal).flatMap p4) :: F) := by
  refine fun_intro Tryz.func6 rfl Tryz.ntmps6 (Nat.le_of_ble_eq_true rfl) ?_
  refine c_seq ?_
  refine c_region ?_
  refine s1 (p_assign rfl) rfl rfl rfl ?_
  refine s1 (p_assign rfl) rfl rfl rfl ?_
  refine s1 (p_assign rfl) rfl rfl rfl ?_
  refine s1 (p_assign rfl) rfl rfl rfl ?_
  refine s1 (p_assign rfl) rfl rfl rfl ?_
  refine s_nil ?_
  refine x_next ?_
  refine c_seq ?_
  refine c_region ?_
  refine s1 (p_move rfl) rfl rfl rfl ?_
  refine s_step (st_call Tryz.func16 nm16 bo16 rfl (clone_spec A N c l hl (by omega) hr)) rfl rfl rfl ?_
  rintro _ _ ⟨A2, c2, rfl, rfl⟩
  refine s_step (st_call Tryz.func15 nm15 bo15 rfl (newReader_spec A2 N c2)) rfl rfl rfl ?_
  rintro _ _ ⟨gr, rfl, rfl⟩
  refine s1 (p_makeIface Tryz.underlying53 rfl rfl) rfl rfl rfl ?_
  refine s_step (st_call Tryz.func14 nm14 bo14 rfl (decodeConfig_spec gr t hok pal hpal hin A2 N c2 l hl (by omega) hlaid m0 (rd_own m1) (fun w h => hlen w h.tail.tail))) rfl rfl rfl ?_
  rintro _ _ ⟨PA, pc, X, rfl, hrp, rfl⟩
  refine s1 (p_move rfl) rfl rfl rfl ?_
  refine s1 (p_extract rfl rfl) rfl rfl rfl ?_
  refine s1 (p_extract rfl rfl) rfl rfl rfl ?_
  refine s_step (st_alloc ze48) rfl rfl rfl ?_
  rintro _ _ ⟨gk, rfl, rfl⟩
  refine s_step0 (st_storeA rfl rfl rfl sz48 rfl) rfl rfl ?_
  rintro _ _ rfl
  refine s1 (p_assign rfl) rfl rfl rfl ?_
  refine s_nil ?_
  refine x_next ?_
  refine c_seq ?_
  refine c_seq ?_
  refine c_region ?_
  refine s1 (p_move rfl) rfl rfl rfl ?_
  refine s1 (p_errnil Tryz.underlying50 rfl) rfl rfl rfl ?_
  refine s_nil ?_
  refine x_next ?_
  refine c_false rfl ?_
  refine c_skip ?_
  refine x_next ?_
  refine c_seq ?_
  refine c_draw 14 ([blk gk [.int .i64 t.kindOf, .slice PA (palOf t pal).length pc, .int .i64 t.wide, .int .i64 t.high] 48]) mixed ?_
  refine d_take 0 rfl (p_fieldAddr (fun w => fa48_0 _ w) rfl) rfl rfl rfl (by kernel_rfl) (fun _ h => Sat.t1 h) ?_
  refine d_take 1 rfl (p_load m0 Tryz.underlying3 rfl rfl rfl) rfl rfl rfl (by kernel_rfl) (fun _ h => Sat.t1 h) ?_
  refine d_take 2 rfl (p_fieldAddr (fun w => fa48_2 _ w) rfl) rfl rfl rfl (by kernel_rfl) (fun _ h => Sat.t1 h) ?_
  refine d_take 3 rfl (p_load m0 Tryz.underlying3 rfl rfl rfl) rfl rfl rfl (by kernel_rfl) (fun _ h => Sat.t1 h) ?_
  refine d_take 4 rfl (p_fieldAddr (fun w => fa48_3 _ w) rfl) rfl rfl rfl (by kernel_rfl) (fun _ h => Sat.t1 h) ?_
  refine d_take 5 rfl (p_load m0 Tryz.underlying3 rfl rfl rfl) rfl rfl rfl (by kernel_rfl) (fun _ h => Sat.t1 h) ?_
  refine d_take 6 rfl (p_fieldAddr (fun w => fa48_1 _ w) rfl) rfl rfl rfl (by kernel_rfl) (fun _ h => Sat.t1 h) ?_
  refine d_take 7 rfl (p_load m0 Tryz.underlying46 rfl rfl rfl) rfl rfl rfl (by kernel_rfl) (fun _ h => Sat.t1 h) ?_
  refine d_step 8 rfl (by kernel_rfl) (st_call Tryz.func18 nm18 bo18 rfl (shadesOf_spec PA _ pc (palOf t pal) rfl (by unfold palOf; split <;> simp [hpal]) (fun x hx => hin x (by unfold palOf at hx; split at hx; exact hx; cases hx)) (fun w h => hrp w (sat_appL h.tail)))) rfl rfl rfl ?_
  rintro _ _ ⟨QA, qc, rfl, rfl⟩
  refine ⟨fun _ => (fun _ h => Sat.t1 (Sat.perm (f1) h)), ?_⟩
  refine d_take 9 rfl (p_assign rfl) rfl rfl rfl (by kernel_rfl) (fun _ h => Sat.t1 (Sat.perm (f1) h)) ?_
  refine d_take 10 rfl (p_assign rfl) rfl rfl rfl (by kernel_rfl) (fun _ h => Sat.t1 (Sat.perm (f1) h)) ?_
  refine d_take 11 rfl (p_assign rfl) rfl rfl rfl (by kernel_rfl) (fun _ h => Sat.t1 (Sat.perm (f1) h)) ?_
  refine d_take 12 rfl (p_assign rfl) rfl rfl rfl (by kernel_rfl) (fun _ h => Sat.t1 (Sat.perm (f1) h)) ?_
  refine d_take 13 rfl (p_assign rfl) rfl rfl rfl (by kernel_rfl) (fun _ h => Sat.t1 (Sat.perm (f1) h)) ?_
  refine d_done (by kernel_rfl) ?_
  refine x_next ?_
  refine c_ret ?_
  refine x_sat (fun w h => back4 h) ?_
  exact x_done_five rfl rfl rfl rfl rfl rfl ⟨QA, qc, rfl, rfl⟩

set_option maxRecDepth 100000 in
theorem fileOf_spec {F : List As} (f w0 h0 : Int) (hf : 0 ≤ f ∧ f ≤ 4294967295) (hw : 0 ≤ w0 ∧ w0 ≤ 255) (hh : 0 ≤ h0 ∧ h0 ≤ 255) (A : Option Addr) (N c : Nat) (l : List Int) (hl : l.length = N) (hN : N ≤ 1000000) (hby : ∀ x ∈ l, 0 ≤ x ∧ x ≤ 255) (hr : ∀ w, Sat w F → Reads w (.slice A N c) 1 N (by8 l)) :
    Fun Tryz.prog 5 [.int .u32 f, .int .u8 w0, .int .u8 h0, .slice A N c] (F) (fun u T => ∃ B n cb b, u = .slice B n cb ∧ b.length = n ∧ n ≤ 200000000 ∧ Laid (shp f w0 h0) (shadesL l) b ∧ T = own (.slice B n cb) 5 1 n (by8 b) :: F) := by
  refine fun_intro Tryz.func5 rfl Tryz.ntmps5 (Nat.le_of_ble_eq_true rfl) ?_
  refine c_seq ?_
  refine c_region ?_
  refine s1 (p_assign rfl) rfl rfl rfl ?_
  refine s_nil ?_
  refine x_next ?_
  refine c_seq ?_
  refine c_region ?_
  refine s1 (p_move rfl) rfl rfl rfl ?_
  refine s1 (p_move rfl) rfl rfl rfl ?_
  refine s1 (p_move rfl) rfl rfl rfl ?_
  refine s_step (st_call Tryz.func8 nm8 bo8 rfl (shapeOf_spec f w0 h0 hf hw hh)) rfl rfl rfl ?_
  rintro _ _ ⟨rfl, ja, jb, rfl⟩
  refine s_step (st_alloc ze33) rfl rfl rfl ?_
  rintro _ _ ⟨gt, rfl, rfl⟩
  refine s_step0 (st_storeA rfl rfl rfl sz33 rfl) rfl rfl ?_
  rintro _ _ rfl
  refine s_perm (T := blk gt (shp f w0 h0).cells 33 :: _) f0 ?_
  refine s_nil ?_
  refine x_next ?_
  refine c_seq ?_
  have hok := shp_ok hf hw hh
  obtain ⟨t, ht⟩ : ∃ t, t = shp f w0 h0 := ⟨_, rfl⟩
  rw [← ht] at hok ⊢
  have hk1 := hok.w
  have hk2 := hok.h
  have hch := t.chan_pos
  have hd := hok.d
  obtain ⟨Wd, hWd⟩ := Int.eq_ofNat_of_zero_le (show 0 ≤ t.wide by omega)
  obtain ⟨Hd, hHd⟩ := Int.eq_ofNat_of_zero_le (show 0 ≤ t.high by omega)
  obtain ⟨Cd, hCd⟩ := Int.eq_ofNat_of_zero_le (show 0 ≤ t.chan by omega)
  obtain ⟨Q, hQ⟩ : ∃ q, Wd * Hd = q := ⟨_, rfl⟩
  obtain ⟨M, hM⟩ : ∃ q, Q * Cd = q := ⟨_, rfl⟩
  have hQ1 : Q ≤ 4000 := by rw [← hQ]; exact Nat.le_trans (Nat.mul_le_mul (show Wd ≤ 96 by omega) (show Hd ≤ 40 by omega)) (by omega)
  have hM1 : M ≤ 64000 := by rw [← hM]; exact Nat.le_trans (Nat.mul_le_mul hQ1 (show Cd ≤ 4 by omega)) (by omega)
  have hWH : t.wide * t.high = (Q : Int) := by rw [hWd, hHd, ← hQ, Int.natCast_mul]
  have hMM : t.wide * t.high * t.chan = (M : Int) := by rw [hWH, hCd, ← hM, Int.natCast_mul]
  refine c_draw 8 ([blk gt t.cells 33]) mixed ?_
  refine d_take 0 rfl (p_loadA m0 Tryz.underlying33 rfl sz33 rfl) rfl rfl rfl (by kernel_rfl) (fun _ h => Sat.t1 h) ?_
  refine d_take 1 rfl (p_loadA m0 Tryz.underlying33 rfl sz33 rfl) rfl rfl rfl (by kernel_rfl) (fun _ h => Sat.t1 h) ?_
  refine d_take 2 rfl (p_move rfl) rfl rfl rfl (by kernel_rfl) (fun _ h => Sat.t1 h) ?_
  refine d_take 4 rfl (p_move rfl) rfl rfl rfl (by kernel_rfl) (fun _ h => Sat.t1 h) ?_
  refine d_step 3 rfl (by kernel_rfl) (st_call Tryz.func13 nm13 bo13 rfl (samples_spec t A N c l hl M hMM (by omega) hM1 (by omega) (fun w h => hr w h.tail.tail.tail))) rfl rfl rfl ?_
  rintro _ _ ⟨sB, sc, sl, hsl, rfl, rfl⟩
  refine ⟨fun _ => (fun _ h => Sat.t1 (Sat.perm (f1) h)), ?_⟩
  refine d_step 5 rfl (by kernel_rfl) (st_call Tryz.func9 nm9 bo9 rfl (shades_spec A N c l hl (by omega) hby (fun w h => hr w h.tail.tail.tail.tail))) rfl rfl rfl ?_
  rintro _ _ ⟨pB, pc, rfl, rfl⟩
  refine ⟨fun _ => (fun _ h => Sat.t1 (Sat.perm (f2) h)), ?_⟩
  refine d_step 6 rfl (by kernel_rfl) (st_call Tryz.func12 nm12 bo12 rfl (write_spec t hok sB M sc sl hsl hMM pB pc (shadesL l) (shadesL_length l) (rd_own m1) (rd_own m0))) rfl rfl rfl ?_
  rintro _ _ ⟨oB, n, oc, b, rfl, hbl, hbn, hlaid, rfl⟩
  refine ⟨fun _ => (fun _ h => Sat.t1 (Sat.perm (f3) h)), ?_⟩
  refine d_take 7 rfl (p_assign rfl) rfl rfl rfl (by kernel_rfl) (fun _ h => Sat.t1 (Sat.perm (f3) h)) ?_
  refine d_done (by kernel_rfl) ?_
  refine x_next ?_
  refine c_ret ?_
  refine x_sat (fun _ h => Sat.tail (Sat.tail (Sat.tail (Sat.tail (Sat.tail (Sat.perm (((((f5).trans f5).trans f5).trans f5).trans f5) h)))))) ?_
  exact x_done_one rfl rfl ⟨oB, n, oc, b, rfl, hbl, hbn, hlaid, rfl⟩

end V
end Go.Proofs.YtaflcjoagfnhfaaGreatDoor
