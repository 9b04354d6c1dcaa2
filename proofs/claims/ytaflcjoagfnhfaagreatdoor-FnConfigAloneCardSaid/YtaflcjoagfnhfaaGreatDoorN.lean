/- Walks: the shape that the law makes of its numbers. -/
import Derived.Test.YtaflcjoagfnhfaaGreatDoorM
namespace Go.Proofs.YtaflcjoagfnhfaaGreatDoor
namespace V
open Go Go.Proofs

theorem s_skipU {P : Program} {ops : Array Oper} {Q : Exit → Act → World → Prop} {n : Nat} {L : Env} {S : List As} {o : Oper} {rest : List Oper} {j d : Nat} {want : Bool} (hg : o.guard = some (j, want)) (hy : ((ops[j]?).bind (·.dst)).bind (look L) = some undef) (hd : o.dst = some d) (hn : Nat.blt d n = true)
    (h : Go1 P ops Q n ((d, undef) :: L) S rest) : Go1 P ops Q n L S (o :: rest) := by
  intro a w hF hS
  unfold wpList
  have hy' : yielded ops a.tmps j = none := by
    unfold yielded
    cases hd : (ops[j]?).bind (·.dst) with
    | none => rw [hd] at hy; simp at hy
    | some d =>
      rw [hd] at hy
      simp only [Option.bind_some] at hy ⊢
      rw [hF.vals d _ hy]
      rfl
  rw [if_neg (by simp [Region.wanted, hg, hy'])]
  rw [hd]
  exact h _ _ (hF.put (blt_lt hn) _) hS
section
variable {P : Program} {fn : Func} {R : Value → List As → Prop} {n : Nat} {L : Env} {S : List As}
theorem load_blk {S : List As} {g : Nat} {cs : List Value} {t T : TypeId} {d : TypeDesc} (h : blk g cs t ∈ S) (ht : P.underlying T = some d) (hd : scalar d = false) (hz : (P.info? T).map (·.size) = some cs.length) {w : World} (hS : Sat w S) :
    (loadVar T ⟨g, 0, none⟩).run P w = .ok (.agg cs.toArray) w := by
  have hb := hS.all _ h
  simp only [blk] at hb
  exact run_loadVar_row (P := P) w g t T cs.toArray (0, 0) d hb ht (by cases d <;> simp_all [scalar]) (by simpa using hz)
theorem x_done_cell {t : Nat} {T ct : TypeId} {d : TypeDesc} {g : Nat} {cs : List Value} (hr : fn.results = #[.cell t T]) (ht : look L t = some (.pointer (some ⟨g, 0, none⟩))) (hb : blk g cs ct ∈ S) (hu : P.underlying T = some d) (hd : scalar d = false)
    (hz : (P.info? T).map (·.size) = some cs.length) (h : R (.agg cs.toArray) S) : GoX .ret (FPost P fn R) n L S :=
  fun a w hF hS => bodyPost_ret (v := .agg cs.toArray) (by
    have h1 := load_blk (P := P) hb hu hd hz hS
    simp [results, hr, hF.vals t _ ht, asAddr, h1]) hF.defers ⟨_, S, rfl, h, hS⟩
theorem x_done_cell2 {t u : Nat} {T ct : TypeId} {d : TypeDesc} {g : Nat} {cs : List Value} {v' : Value} (hr : fn.results = #[.cell t T, .tmp u]) (ht : look L t = some (.pointer (some ⟨g, 0, none⟩))) (hv : look L u = some v') (hb : blk g cs ct ∈ S) (hu : P.underlying T = some d) (hd : scalar d = false)
    (hz : (P.info? T).map (·.size) = some cs.length) (h : R (.tuple #[.agg cs.toArray, v']) S) : GoX .ret (FPost P fn R) n L S :=
  fun a w hF hS => bodyPost_ret (v := .tuple #[.agg cs.toArray, v']) (by
    have h1 := load_blk (P := P) hb hu hd hz hS
    simp [results, hr, hF.vals t _ ht, asAddr, h1, hF.vals u _ hv]) hF.defers ⟨_, S, rfl, h, hS⟩
theorem x_done_four {t1 t2 t3 t4 : Nat} {v1 v2 v3 v4 : Value} (hr : fn.results = #[.tmp t1, .tmp t2, .tmp t3, .tmp t4]) (h1 : look L t1 = some v1) (h2 : look L t2 = some v2) (h3 : look L t3 = some v3) (h4 : look L t4 = some v4) (h : R (.tuple #[v1, v2, v3, v4]) S) : GoX .ret (FPost P fn R) n L S :=
  fun a w hF hS => bodyPost_ret (v := .tuple #[v1, v2, v3, v4]) (by simp [results, hr, hF.vals _ _ h1, hF.vals _ _ h2, hF.vals _ _ h3, hF.vals _ _ h4]) hF.defers ⟨_, S, rfl, h, hS⟩
theorem x_done_five {t1 t2 t3 t4 t5 : Nat} {v1 v2 v3 v4 v5 : Value} (hr : fn.results = #[.tmp t1, .tmp t2, .tmp t3, .tmp t4, .tmp t5]) (h1 : look L t1 = some v1) (h2 : look L t2 = some v2) (h3 : look L t3 = some v3) (h4 : look L t4 = some v4) (h5 : look L t5 = some v5) (h : R (.tuple #[v1, v2, v3, v4, v5]) S) : GoX .ret (FPost P fn R) n L S :=
  fun a w hF hS => bodyPost_ret (v := .tuple #[v1, v2, v3, v4, v5]) (by simp [results, hr, hF.vals _ _ h1, hF.vals _ _ h2, hF.vals _ _ h3, hF.vals _ _ h4, hF.vals _ _ h5]) hF.defers ⟨_, S, rfl, h, hS⟩
end
/-- The shape that the law makes out of its numbers. -/
def shColour (f : Int) : Int := f / 2 % 4
def shDepth0 (f : Int) : Int := [8, 16, 8, 1].getD (f / 8 % 4).toNat 0
def shDepth (f : Int) : Int := if shColour f = 3 then 8 else if shColour f = 2 then max (shDepth0 f) 8 else shDepth0 f
def shAlpha (f : Int) : Int := if shColour f = 3 then 0 else if shColour f = 2 then f / 32 % 3 else 0
def shPack (f : Int) : Int := [1, 5, 8, 32946, 32773].getD (f / 128 % 5).toNat 0
def shAhead (f : Int) : Bool := decide (bAnd .u32 f 4096 ≠ 0) && (decide (shDepth f ≥ 8) && (decide (shPack f = 5) || decide (shPack f = 8)))
def shp (f w h : Int) : Tif :=
  if bAnd .u32 f 524288 ≠ 0 then ⟨decide (bAnd .u32 f 1 ≠ 0), (16 + 16 * (f / 1048576 % 2)) * (1 + w % 3), 1 + h % 40, shColour f, shAlpha f, shDepth f, shPack f, shAhead f, 16 + 16 * (f / 1048576 % 2), 16 + 16 * (f / 2097152 % 2), 1 + f / 8192 % (1 + h % 40)⟩
  else ⟨decide (bAnd .u32 f 1 ≠ 0), 1 + w % 40, 1 + h % 40, shColour f, shAlpha f, shDepth f, shPack f, shAhead f, 0, 0, 1 + f / 8192 % (1 + h % 40)⟩
theorem shr32 {f b : Int} {d : Int} (hd : (2 ^ min b.toNat IntKind.u32.bits : Int) = d) (h0 : 0 < d) : f.fdiv (2 ^ min b.toNat IntKind.u32.bits) = f / d := by
  rw [hd, Int.fdiv_eq_ediv_of_nonneg _ (by omega)]
theorem getD_in64 {l : List Int} {k : Nat} (h : k < l.length) : (in64 l)[k]? = some (.int .i64 (l.getD k 0)) := in64_get h

theorem bd33 (b : Bool) (x y z : Int) (w : World) : (Instr.build 33 [(0, .bool b), (1, .int .i64 x), (2, .int .i64 y), (3, .int .i64 z)].toArray).run Tryz.prog w = .ok (.agg [.bool b, .int .i64 x, .int .i64 y, .int .i64 z, .int .i64 0, .int .i64 0, .int .i64 0, .bool false, .int .i64 0, .int .i64 0, .int .i64 0].toArray) w := by kernel_rfl
theorem shCases (f : Int) : (¬ bAnd .u32 f 4096 ≠ 0 ∧ True) ∨ (bAnd .u32 f 4096 ≠ 0 ∧ ¬ shDepth f ≥ 8) ∨ (bAnd .u32 f 4096 ≠ 0 ∧ shDepth f ≥ 8 ∧ shPack f = 5) ∨ (bAnd .u32 f 4096 ≠ 0 ∧ shDepth f ≥ 8 ∧ ¬ shPack f = 5) := by
  rcases Classical.em (bAnd .u32 f 4096 ≠ 0) with h | h <;> rcases Classical.em (shDepth f ≥ 8) with k | k <;> rcases Classical.em (shPack f = 5) with l | l <;> simp [h, k, l]

set_option maxRecDepth 100000 in
theorem kindOf_spec {F : List As} (t : Tif) (hd : t.colour = 3 → t.depth = 8) :
    Fun Tryz.prog 11 [t.val] (F) (fun u T => u = .int .i64 t.kindOf ∧ T = F) := by
  refine fun_intro Tryz.func11 rfl Tryz.ntmps11 (Nat.le_of_ble_eq_true rfl) ?_
  refine c_seq ?_
  refine c_region ?_
  refine s_step (st_box rfl) rfl rfl rfl ?_
  rintro _ _ ⟨gt, rfl, rfl⟩
  refine s_perm (T := blk gt t.cells 33 :: _) f0 ?_
  refine s1 (p_assign rfl) rfl rfl rfl ?_
  refine s_nil ?_
  refine x_next ?_
  refine c_seq ?_
  refine c_region ?_
  refine s1 (p_assign rfl) rfl rfl rfl ?_
  refine s_nil ?_
  refine x_next ?_
  refine c_seq ?_
  refine c_seq ?_
  refine c_region ?_
  refine s1 (p_fieldAddr (fun w => fa33_5 _ w) rfl) rfl rfl rfl ?_
  refine s1 (p_load m0 Tryz.underlying3 rfl rfl rfl) rfl rfl rfl ?_
  refine s1 (p_eq rfl rfl) rfl rfl rfl ?_
  refine s_nil ?_
  refine x_next ?_
  refine c_if rfl (fun h6 => ?_) (fun h6 => ?_)
  · refine c_region ?_
    refine s1 (p_assign rfl) rfl rfl rfl ?_
    refine s_nil ?_
    refine x_next ?_
    refine c_seq ?_
    refine c_block ?_
    refine c_seq ?_
    refine c_region ?_
    refine s1 (p_fieldAddr (fun w => fa33_3 _ w) rfl) rfl rfl rfl ?_
    refine s1 (p_load m0 Tryz.underlying3 rfl rfl rfl) rfl rfl rfl ?_
    refine s1 (p_lt rfl rfl) rfl rfl rfl ?_
    refine s1 (p_assign rfl) rfl rfl rfl ?_
    refine s_nil ?_
    refine x_next ?_
    refine c_if rfl (fun h7 => ?_) (fun h7 => ?_)
    · refine c_seq ?_
      refine c_region ?_
      refine s1 (p_move rfl) rfl rfl rfl ?_
      refine s1 (p_add rfl rfl (w64 (by omega))) rfl rfl rfl ?_
      refine s1 (p_assign rfl) rfl rfl rfl ?_
      refine s_nil ?_
      refine x_next ?_
      refine c_ret ?_
      refine x_ret_block ?_
      refine x_ret_then ?_
      refine x_sat drop0 ?_
      exact x_done_one rfl rfl ⟨by unfold Tif.kindOf; simp_all <;> omega, rfl⟩
    · refine c_seq ?_
      refine c_region ?_
      refine s1 (p_fieldAddr (fun w => fa33_3 _ w) rfl) rfl rfl rfl ?_
      refine s1 (p_load m0 Tryz.underlying3 rfl rfl rfl) rfl rfl rfl ?_
      refine s1 (p_eq rfl rfl) rfl rfl rfl ?_
      refine s1 (p_assign rfl) rfl rfl rfl ?_
      refine s_nil ?_
      refine x_next ?_
      refine c_if rfl (fun h13 => ?_) (fun h13 => ?_)
      · refine c_seq ?_
        refine c_region ?_
        refine s1 (p_assign rfl) rfl rfl rfl ?_
        refine s_nil ?_
        refine x_next ?_
        refine c_ret ?_
        refine x_ret_block ?_
        refine x_ret_then ?_
        refine x_sat drop0 ?_
        exact x_done_one rfl rfl ⟨by unfold Tif.kindOf; simp_all <;> omega, rfl⟩
      · refine c_seq ?_
        refine c_region ?_
        refine s1 (p_fieldAddr (fun w => fa33_4 _ w) rfl) rfl rfl rfl ?_
        refine s1 (p_load m0 Tryz.underlying3 rfl rfl rfl) rfl rfl rfl ?_
        refine s1 (p_eq rfl rfl) rfl rfl rfl ?_
        refine s1 (p_assign rfl) rfl rfl rfl ?_
        refine s_nil ?_
        refine x_next ?_
        refine c_if rfl (fun h17 => ?_) (fun h17 => ?_)
        · refine c_seq ?_
          refine c_region ?_
          refine s1 (p_move rfl) rfl rfl rfl ?_
          refine s1 (p_add rfl rfl (w64 (by omega))) rfl rfl rfl ?_
          refine s1 (p_assign rfl) rfl rfl rfl ?_
          refine s_nil ?_
          refine x_next ?_
          refine c_ret ?_
          refine x_ret_block ?_
          refine x_ret_then ?_
          refine x_sat drop0 ?_
          exact x_done_one rfl rfl ⟨by unfold Tif.kindOf; simp_all <;> omega, rfl⟩
        · refine c_skip ?_
          refine x_block ?_
          refine x_next ?_
          refine c_seq ?_
          refine c_region ?_
          refine s1 (p_move rfl) rfl rfl rfl ?_
          refine s1 (p_add rfl rfl (w64 (by omega))) rfl rfl rfl ?_
          refine s1 (p_assign rfl) rfl rfl rfl ?_
          refine s_nil ?_
          refine x_next ?_
          refine c_ret ?_
          refine x_sat drop0 ?_
          exact x_done_one rfl rfl ⟨by unfold Tif.kindOf; simp_all <;> omega, rfl⟩
  · refine c_skip ?_
    refine x_next ?_
    refine c_seq ?_
    refine c_block ?_
    refine c_seq ?_
    refine c_region ?_
    refine s1 (p_fieldAddr (fun w => fa33_3 _ w) rfl) rfl rfl rfl ?_
    refine s1 (p_load m0 Tryz.underlying3 rfl rfl rfl) rfl rfl rfl ?_
    refine s1 (p_lt rfl rfl) rfl rfl rfl ?_
    refine s1 (p_assign rfl) rfl rfl rfl ?_
    refine s_nil ?_
    refine x_next ?_
    refine c_if rfl (fun h7 => ?_) (fun h7 => ?_)
    · refine c_seq ?_
      refine c_region ?_
      refine s1 (p_move rfl) rfl rfl rfl ?_
      refine s1 (p_add rfl rfl (w64 (by omega))) rfl rfl rfl ?_
      refine s1 (p_assign rfl) rfl rfl rfl ?_
      refine s_nil ?_
      refine x_next ?_
      refine c_ret ?_
      refine x_ret_block ?_
      refine x_ret_then ?_
      refine x_sat drop0 ?_
      exact x_done_one rfl rfl ⟨by unfold Tif.kindOf; simp_all <;> omega, rfl⟩
    · refine c_seq ?_
      refine c_region ?_
      refine s1 (p_fieldAddr (fun w => fa33_3 _ w) rfl) rfl rfl rfl ?_
      refine s1 (p_load m0 Tryz.underlying3 rfl rfl rfl) rfl rfl rfl ?_
      refine s1 (p_eq rfl rfl) rfl rfl rfl ?_
      refine s1 (p_assign rfl) rfl rfl rfl ?_
      refine s_nil ?_
      refine x_next ?_
      refine c_if rfl (fun h13 => ?_) (fun h13 => ?_)
      · refine c_seq ?_
        refine c_region ?_
        refine s1 (p_assign rfl) rfl rfl rfl ?_
        refine s_nil ?_
        refine x_next ?_
        refine c_ret ?_
        refine x_ret_block ?_
        refine x_ret_then ?_
        refine x_sat drop0 ?_
        exact x_done_one rfl rfl ⟨by unfold Tif.kindOf; simp_all <;> omega, rfl⟩
      · refine c_seq ?_
        refine c_region ?_
        refine s1 (p_fieldAddr (fun w => fa33_4 _ w) rfl) rfl rfl rfl ?_
        refine s1 (p_load m0 Tryz.underlying3 rfl rfl rfl) rfl rfl rfl ?_
        refine s1 (p_eq rfl rfl) rfl rfl rfl ?_
        refine s1 (p_assign rfl) rfl rfl rfl ?_
        refine s_nil ?_
        refine x_next ?_
        refine c_if rfl (fun h17 => ?_) (fun h17 => ?_)
        · refine c_seq ?_
          refine c_region ?_
          refine s1 (p_move rfl) rfl rfl rfl ?_
          refine s1 (p_add rfl rfl (w64 (by omega))) rfl rfl rfl ?_
          refine s1 (p_assign rfl) rfl rfl rfl ?_
          refine s_nil ?_
          refine x_next ?_
          refine c_ret ?_
          refine x_ret_block ?_
          refine x_ret_then ?_
          refine x_sat drop0 ?_
          exact x_done_one rfl rfl ⟨by unfold Tif.kindOf; simp_all <;> omega, rfl⟩
        · refine c_skip ?_
          refine x_block ?_
          refine x_next ?_
          refine c_seq ?_
          refine c_region ?_
          refine s1 (p_move rfl) rfl rfl rfl ?_
          refine s1 (p_add rfl rfl (w64 (by omega))) rfl rfl rfl ?_
          refine s1 (p_assign rfl) rfl rfl rfl ?_
          refine s_nil ?_
          refine x_next ?_
          refine c_ret ?_
          refine x_sat drop0 ?_
          exact x_done_one rfl rfl ⟨by unfold Tif.kindOf; simp_all <;> omega, rfl⟩

set_option maxRecDepth 100000 in
theorem shapeOf_spec {F : List As} (f w h : Int) (hf : 0 ≤ f ∧ f ≤ 4294967295) (hw : 0 ≤ w ∧ w ≤ 255) (hh : 0 ≤ h ∧ h ≤ 255) :
    Fun Tryz.prog 8 [.int .u32 f, .int .u8 w, .int .u8 h] (F) (fun u T => u = (shp f w h).val ∧ ∃ A B, T = A :: B :: F) := by
  refine fun_intro Tryz.func8 rfl Tryz.ntmps8 (Nat.le_of_ble_eq_true rfl) ?_
  refine c_seq ?_
  refine c_region ?_
  refine s_step (st_alloc ze33) rfl rfl rfl ?_
  rintro _ _ ⟨g0, rfl, rfl⟩
  refine s_nil ?_
  refine x_next ?_
  refine c_seq ?_
  refine c_region ?_
  refine s1 (p_move rfl) rfl rfl rfl ?_
  refine s1 (p_and rfl rfl rfl) rfl rfl rfl ?_
  refine s1 (p_ne rfl rfl) rfl rfl rfl ?_
  refine s1 (p_move rfl) rfl rfl rfl ?_
  refine s1 (p_conv Tryz.underlying5 Tryz.underlying3 rfl (w64 (by omega))) rfl rfl rfl ?_
  refine s1 (p_rem rfl rfl (by omega) (tm (by omega))) rfl rfl rfl ?_
  refine s1 (p_add rfl rfl (w64 (by omega))) rfl rfl rfl ?_
  refine s1 (p_move rfl) rfl rfl rfl ?_
  refine s1 (p_conv Tryz.underlying5 Tryz.underlying3 rfl (w64 (by omega))) rfl rfl rfl ?_
  refine s1 (p_rem rfl rfl (by omega) (tm (by omega))) rfl rfl rfl ?_
  refine s1 (p_add rfl rfl (w64 (by omega))) rfl rfl rfl ?_
  refine s1 (p_move rfl) rfl rfl rfl ?_
  refine s1 (p_shr rfl rfl (by omega) (shr32 (d := 2) rfl (by omega))) rfl rfl rfl ?_
  refine s1 (p_rem rfl rfl (by omega) (tm (by omega))) rfl rfl rfl ?_
  refine s1 (p_conv Tryz.underlying22 Tryz.underlying3 rfl (w64 (by omega))) rfl rfl rfl ?_
  refine s1 (p_build rfl (fun w => bd33 _ _ _ _ w)) rfl rfl rfl ?_
  refine s_step (st_alloc ze33) rfl rfl rfl ?_
  rintro _ _ ⟨gt, rfl, rfl⟩
  refine s_step0 (st_storeA rfl rfl rfl sz33 rfl) rfl rfl ?_
  rintro _ _ rfl
  refine s_nil ?_
  refine x_next ?_
  refine c_seq ?_
  refine c_region ?_
  refine s_step (st_buildSlice (e := 3) (size := 1) rfl (fun w => bs43_4 _ _ _ _ w) rfl (by omega)) rfl rfl rfl ?_
  rintro _ _ ⟨g1, rfl, rfl⟩
  refine s1 (p_move rfl) rfl rfl rfl ?_
  refine s1 (p_shr rfl rfl (by omega) (shr32 (d := 8) rfl (by omega))) rfl rfl rfl ?_
  refine s1 (p_rem rfl rfl (by omega) (tm (by omega))) rfl rfl rfl ?_
  refine s1 (p_index (kk := (f / 8 % 4).toNat) Tryz.underlying43 sz3 rfl rfl (rd_own m0) (by omega) (by omega) (by omega)) rfl rfl rfl ?_
  refine s1 (p_loadE (u := .int .i64 (shDepth0 f)) Tryz.underlying3 rfl rfl (rd_own m0) (in64_get (l := [8, 16, 8, 1]) (by simp; omega))) rfl rfl rfl ?_
  refine s1 (p_fieldAddr (fun w => fa33_5 _ w) rfl) rfl rfl rfl ?_
  refine s_perm f1 ?_
  refine s_step0 (st_store rfl rfl rfl sz3 (by simp)) rfl rfl ?_
  rintro _ _ rfl
  refine s_perm f1 ?_
  refine s_sat drop0 ?_
  refine s_perm (T := blk gt [.bool (decide (bAnd .u32 f 1 ≠ 0)), .int .i64 (1 + w % 40), .int .i64 (1 + h % 40), .int .i64 (f / 2 % 4), .int .i64 (0), .int .i64 (shDepth0 f), .int .i64 (0), .bool (false), .int .i64 (0), .int .i64 (0), .int .i64 (0)] 33 :: _) f0 ?_
  refine s_nil ?_
  refine x_next ?_
  refine c_cut (α := (Int) × (Int)) (fun gg => gg.1 = shDepth f ∧ gg.2 = shAlpha f) (fun gg => [(0, .int .u32 f), (1, .int .u8 w), (2, .int .u8 h), (6, .pointer (some ⟨g0, 0, none⟩)), (7, .pointer (some ⟨gt, 0, none⟩))]) (fun gg => blk gt [.bool (decide (bAnd .u32 f 1 ≠ 0)), .int .i64 (1 + w % 40), .int .i64 (1 + h % 40), .int .i64 (f / 2 % 4), .int .i64 (gg.2), .int .i64 (gg.1), .int .i64 (0), .bool (false), .int .i64 (0), .int .i64 (0), .int .i64 (0)] 33 :: blk g0 [.bool false, .int .i64 0, .int .i64 0, .int .i64 0, .int .i64 0, .int .i64 0, .int .i64 0, .bool false, .int .i64 0, .int .i64 0, .int .i64 0] 33 :: F) ?_ ?_
  · refine c_block ?_
    refine c_seq ?_
    refine c_region ?_
    refine s1 (p_fieldAddr (fun w => fa33_3 _ w) rfl) rfl rfl rfl ?_
    refine s1 (p_load m0 Tryz.underlying3 rfl rfl rfl) rfl rfl rfl ?_
    refine s1 (p_eq rfl rfl) rfl rfl rfl ?_
    refine s1 (p_assign rfl) rfl rfl rfl ?_
    refine s_nil ?_
    refine x_next ?_
    refine c_if rfl (fun h31 => ?_) (fun h31 => ?_)
    · refine c_region ?_
      refine s1 (p_fieldAddr (fun w => fa33_5 _ w) rfl) rfl rfl rfl ?_
      refine s_step0 (st_store rfl rfl rfl sz3 (by simp)) rfl rfl ?_
      rintro _ _ rfl
      refine s_nil ?_
      refine x_block ?_
      exact x_cut ⟨8, 0⟩ (⟨by dsimp only; unfold shDepth shColour; rw [if_pos h31], by dsimp only; unfold shAlpha shColour; rw [if_pos h31]⟩) ⟨rfl, rfl, rfl, rfl, rfl, trivial⟩ ((f1).trans f1)
    · refine c_seq ?_
      refine c_region ?_
      refine s1 (p_fieldAddr (fun w => fa33_3 _ w) rfl) rfl rfl rfl ?_
      refine s1 (p_load m0 Tryz.underlying3 rfl rfl rfl) rfl rfl rfl ?_
      refine s1 (p_eq rfl rfl) rfl rfl rfl ?_
      refine s1 (p_assign rfl) rfl rfl rfl ?_
      refine s_nil ?_
      refine x_next ?_
      refine c_if rfl (fun h36 => ?_) (fun h36 => ?_)
      · refine c_seq ?_
        refine c_region ?_
        refine s1 (p_fieldAddr (fun w => fa33_5 _ w) rfl) rfl rfl rfl ?_
        refine s1 (p_load m0 Tryz.underlying3 rfl rfl rfl) rfl rfl rfl ?_
        refine s1 (p_max rfl rfl (itemax _ _)) rfl rfl rfl ?_
        refine s1 (p_fieldAddr (fun w => fa33_5 _ w) rfl) rfl rfl rfl ?_
        refine s_step0 (st_store rfl rfl rfl sz3 (by simp)) rfl rfl ?_
        rintro _ _ rfl
        refine s_nil ?_
        refine x_next ?_
        refine c_region ?_
        refine s1 (p_move rfl) rfl rfl rfl ?_
        refine s1 (p_shr rfl rfl (by omega) (shr32 (d := 32) rfl (by omega))) rfl rfl rfl ?_
        refine s1 (p_rem rfl rfl (by omega) (tm (by omega))) rfl rfl rfl ?_
        refine s1 (p_conv Tryz.underlying22 Tryz.underlying3 rfl (w64 (by omega))) rfl rfl rfl ?_
        refine s1 (p_fieldAddr (fun w => fa33_4 _ w) rfl) rfl rfl rfl ?_
        refine s_step0 (st_store rfl rfl rfl sz3 (by simp)) rfl rfl ?_
        rintro _ _ rfl
        refine s_nil ?_
        refine x_block ?_
        exact x_cut ⟨max (shDepth0 f) 8, f / 32 % 3⟩ (⟨by dsimp only; unfold shDepth shColour; rw [if_neg h31, if_pos h36], by dsimp only; unfold shAlpha shColour; rw [if_neg h31, if_pos h36]⟩) ⟨rfl, rfl, rfl, rfl, rfl, trivial⟩ ((f1).trans f1)
      · refine c_skip ?_
        refine x_block ?_
        exact x_cut ⟨shDepth0 f, 0⟩ (⟨by dsimp only; unfold shDepth shColour; rw [if_neg h31, if_neg h36], by dsimp only; unfold shAlpha shColour; rw [if_neg h31, if_neg h36]⟩) ⟨rfl, rfl, rfl, rfl, rfl, trivial⟩ ((f1).trans f1)
  · rintro ⟨de, al⟩ hI
    replace hI : de = shDepth f ∧ al = shAlpha f := hI
    obtain ⟨hde, hal⟩ := hI
    refine c_sub (L' := [(0, .int .u32 f), (1, .int .u8 w), (2, .int .u8 h), (6, .pointer (some ⟨g0, 0, none⟩)), (7, .pointer (some ⟨gt, 0, none⟩))]) ⟨rfl, rfl, rfl, rfl, rfl, trivial⟩ ?_
    refine c_perm (T := blk gt [.bool (decide (bAnd .u32 f 1 ≠ 0)), .int .i64 (1 + w % 40), .int .i64 (1 + h % 40), .int .i64 (f / 2 % 4), .int .i64 (al), .int .i64 (de), .int .i64 (0), .bool (false), .int .i64 (0), .int .i64 (0), .int .i64 (0)] 33 :: blk g0 [.bool false, .int .i64 0, .int .i64 0, .int .i64 0, .int .i64 0, .int .i64 0, .int .i64 0, .bool false, .int .i64 0, .int .i64 0, .int .i64 0] 33 :: F) f0 ?_
    refine c_seq ?_
    subst hde hal
    refine c_region ?_
    refine s_step (st_buildSlice (e := 3) (size := 1) rfl (fun w => bs43_5 _ _ _ _ _ w) rfl (by omega)) rfl rfl rfl ?_
    rintro _ _ ⟨g1, rfl, rfl⟩
    refine s1 (p_move rfl) rfl rfl rfl ?_
    refine s1 (p_shr rfl rfl (by omega) (shr32 (d := 128) rfl (by omega))) rfl rfl rfl ?_
    refine s1 (p_rem rfl rfl (by omega) (tm (by omega))) rfl rfl rfl ?_
    refine s1 (p_index (kk := (f / 128 % 5).toNat) Tryz.underlying43 sz3 rfl rfl (rd_own m0) (by omega) (by omega) (by omega)) rfl rfl rfl ?_
    refine s1 (p_loadE (u := .int .i64 (shPack f)) Tryz.underlying3 rfl rfl (rd_own m0) (in64_get (l := [1, 5, 8, 32946, 32773]) (by simp; omega))) rfl rfl rfl ?_
    refine s1 (p_fieldAddr (fun w => fa33_6 _ w) rfl) rfl rfl rfl ?_
    refine s_perm f1 ?_
    refine s_step0 (st_store rfl rfl rfl sz3 (by simp)) rfl rfl ?_
    rintro _ _ rfl
    refine s_perm f1 ?_
    refine s_sat drop0 ?_
    refine s_nil ?_
    refine x_next ?_
    refine c_seq ?_
    rcases shCases f with hq | hq | hq | hq
    · have hah : shAhead f = false := by simp_all [shAhead]
      refine c_region ?_
      refine s1 (p_move rfl) rfl rfl rfl ?_
      refine s1 (p_and rfl rfl rfl) rfl rfl rfl ?_
      refine s1 (pb_false (p_ne rfl rfl) hq.1) rfl rfl rfl ?_
      refine s1 (p_move rfl) rfl rfl rfl ?_
      refine s_skip rfl rfl rfl rfl rfl ?_
      refine s_skip rfl rfl rfl rfl rfl ?_
      refine s_skip rfl rfl rfl rfl rfl ?_
      refine s1 (p_pickF rfl rfl) rfl rfl rfl ?_
      refine s1 (p_move rfl) rfl rfl rfl ?_
      refine s_skip rfl rfl rfl rfl rfl ?_
      refine s_skip rfl rfl rfl rfl rfl ?_
      refine s_skip rfl rfl rfl rfl rfl ?_
      refine s_skip rfl rfl rfl rfl rfl ?_
      refine s_skipU rfl rfl rfl rfl ?_
      refine s_skipU rfl rfl rfl rfl ?_
      refine s_skipU rfl rfl rfl rfl ?_
      refine s_skip rfl rfl rfl rfl rfl ?_
      refine s1 (p_pickF rfl rfl) rfl rfl rfl ?_
      refine s1 (p_fieldAddr (fun w => fa33_7 _ w) rfl) rfl rfl rfl ?_
      refine s_step0 (st_store rfl rfl rfl sz4 (by simp)) rfl rfl ?_
      rintro _ _ rfl
      refine s_perm (T := blk gt [.bool (decide (bAnd .u32 f 1 ≠ 0)), .int .i64 (1 + w % 40), .int .i64 (1 + h % 40), .int .i64 (f / 2 % 4), .int .i64 (shAlpha f), .int .i64 (shDepth f), .int .i64 (shPack f), .bool false, .int .i64 (0), .int .i64 (0), .int .i64 (0)] 33 :: _) f0 ?_
      refine s_nil ?_
      refine x_next ?_
      refine c_seq ?_
      have hm1 : 0 ≤ f / 8192 % (1 + h % 40) := Int.emod_nonneg _ (by omega)
      have hm2 : f / 8192 % (1 + h % 40) < 1 + h % 40 := Int.emod_lt_of_pos _ (by omega)
      refine c_region ?_
      refine s1 (p_move rfl) rfl rfl rfl ?_
      refine s1 (p_shr rfl rfl (by omega) (shr32 (d := 8192) rfl (by omega))) rfl rfl rfl ?_
      refine s1 (p_conv Tryz.underlying22 Tryz.underlying3 rfl (w64 (by omega))) rfl rfl rfl ?_
      refine s1 (p_fieldAddr (fun w => fa33_2 _ w) rfl) rfl rfl rfl ?_
      refine s1 (p_load m0 Tryz.underlying3 rfl rfl rfl) rfl rfl rfl ?_
      refine s1 (p_rem rfl rfl (by omega) (tm (by omega))) rfl rfl rfl ?_
      refine s1 (p_add rfl rfl (w64 (by omega))) rfl rfl rfl ?_
      refine s1 (p_fieldAddr (fun w => fa33_10 _ w) rfl) rfl rfl rfl ?_
      refine s_step0 (st_store rfl rfl rfl sz3 (by simp)) rfl rfl ?_
      rintro _ _ rfl
      refine s_nil ?_
      refine x_next ?_
      refine c_seq ?_
      refine c_seq ?_
      refine c_region ?_
      refine s1 (p_move rfl) rfl rfl rfl ?_
      refine s1 (p_and rfl rfl rfl) rfl rfl rfl ?_
      refine s1 (p_ne rfl rfl) rfl rfl rfl ?_
      refine s_nil ?_
      refine x_next ?_
      refine c_if rfl (fun h85 => ?_) (fun h85 => ?_)
      · refine c_seq ?_
        refine c_region ?_
        refine s1 (p_move rfl) rfl rfl rfl ?_
        refine s1 (p_shr rfl rfl (by omega) (shr32 (d := 1048576) rfl (by omega))) rfl rfl rfl ?_
        refine s1 (p_rem rfl rfl (by omega) (tm (by omega))) rfl rfl rfl ?_
        refine s1 (p_conv Tryz.underlying22 Tryz.underlying3 rfl (w64 (by omega))) rfl rfl rfl ?_
        refine s1 (p_mul rfl rfl (w64 (by omega))) rfl rfl rfl ?_
        refine s1 (p_add rfl rfl (w64 (by omega))) rfl rfl rfl ?_
        refine s1 (p_move rfl) rfl rfl rfl ?_
        refine s1 (p_shr rfl rfl (by omega) (shr32 (d := 2097152) rfl (by omega))) rfl rfl rfl ?_
        refine s1 (p_rem rfl rfl (by omega) (tm (by omega))) rfl rfl rfl ?_
        refine s1 (p_conv Tryz.underlying22 Tryz.underlying3 rfl (w64 (by omega))) rfl rfl rfl ?_
        refine s1 (p_mul rfl rfl (w64 (by omega))) rfl rfl rfl ?_
        refine s1 (p_add rfl rfl (w64 (by omega))) rfl rfl rfl ?_
        refine s1 (p_fieldAddr (fun w => fa33_8 _ w) rfl) rfl rfl rfl ?_
        refine s_step0 (st_store rfl rfl rfl sz3 (by simp)) rfl rfl ?_
        rintro _ _ rfl
        refine s1 (p_fieldAddr (fun w => fa33_9 _ w) rfl) rfl rfl rfl ?_
        refine s_step0 (st_store rfl rfl rfl sz3 (by simp)) rfl rfl ?_
        rintro _ _ rfl
        refine s_nil ?_
        refine x_next ?_
        have hb1 : (16 + 16 * (f / 1048576 % 2)) * (1 + w % 3) ≤ 96 := by
          have h1 : f / 1048576 % 2 = 0 ∨ f / 1048576 % 2 = 1 := by omega
          rcases h1 with h1 | h1 <;> rw [h1] <;> omega
        have hb0 : 0 ≤ (16 + 16 * (f / 1048576 % 2)) * (1 + w % 3) := Int.mul_nonneg (by omega) (by omega)
        refine c_region ?_
        refine s1 (p_fieldAddr (fun w => fa33_8 _ w) rfl) rfl rfl rfl ?_
        refine s1 (p_load m0 Tryz.underlying3 rfl rfl rfl) rfl rfl rfl ?_
        refine s1 (p_move rfl) rfl rfl rfl ?_
        refine s1 (p_conv Tryz.underlying5 Tryz.underlying3 rfl (w64 (by omega))) rfl rfl rfl ?_
        refine s1 (p_rem rfl rfl (by omega) (tm (by omega))) rfl rfl rfl ?_
        refine s1 (p_add rfl rfl (w64 (by omega))) rfl rfl rfl ?_
        refine s1 (p_mul rfl rfl (w64 (by omega))) rfl rfl rfl ?_
        refine s1 (p_fieldAddr (fun w => fa33_1 _ w) rfl) rfl rfl rfl ?_
        refine s_step0 (st_store rfl rfl rfl sz3 (by simp)) rfl rfl ?_
        rintro _ _ rfl
        refine s_nil ?_
        refine x_next ?_
        refine c_seq ?_
        refine c_region ?_
        refine s1 (p_loadA m0 Tryz.underlying33 rfl sz33 rfl) rfl rfl rfl ?_
        refine s_perm f1 ?_
        refine s_step0 (st_storeA rfl rfl rfl sz33 rfl) rfl rfl ?_
        rintro _ _ rfl
        refine s_nil ?_
        refine x_next ?_
        refine c_ret ?_
        refine x_done_cell rfl rfl m0 Tryz.underlying33 rfl rfl ?_
        exact ⟨by unfold shp; rw [if_pos h85, hah]; rfl, _, _, rfl⟩
      · refine c_skip ?_
        refine x_next ?_
        refine c_seq ?_
        refine c_region ?_
        refine s1 (p_loadA m0 Tryz.underlying33 rfl sz33 rfl) rfl rfl rfl ?_
        refine s_perm f1 ?_
        refine s_step0 (st_storeA rfl rfl rfl sz33 rfl) rfl rfl ?_
        rintro _ _ rfl
        refine s_nil ?_
        refine x_next ?_
        refine c_ret ?_
        refine x_done_cell rfl rfl m0 Tryz.underlying33 rfl rfl ?_
        exact ⟨by unfold shp; rw [if_neg h85, hah]; rfl, _, _, rfl⟩
    · have hah : shAhead f = false := by unfold shAhead; rw [decide_eq_false hq.2]; simp
      refine c_region ?_
      refine s1 (p_move rfl) rfl rfl rfl ?_
      refine s1 (p_and rfl rfl rfl) rfl rfl rfl ?_
      refine s1 (pb_true (p_ne rfl rfl) hq.1) rfl rfl rfl ?_
      refine s1 (p_move rfl) rfl rfl rfl ?_
      refine sg1 (p_fieldAddr (fun w => fa33_5 _ w) rfl) rfl rfl rfl rfl ?_
      refine sg1 (p_load m0 Tryz.underlying3 rfl rfl rfl) rfl rfl rfl rfl ?_
      refine sg1 (pb_false (p_ge rfl rfl) hq.2) rfl rfl rfl rfl ?_
      refine s1 (p_pickT rfl rfl) rfl rfl rfl ?_
      refine s1 (p_move rfl) rfl rfl rfl ?_
      refine s_skip rfl rfl rfl rfl rfl ?_
      refine s_skip rfl rfl rfl rfl rfl ?_
      refine s_skip rfl rfl rfl rfl rfl ?_
      refine s_skip rfl rfl rfl rfl rfl ?_
      refine s_skipU rfl rfl rfl rfl ?_
      refine s_skipU rfl rfl rfl rfl ?_
      refine s_skipU rfl rfl rfl rfl ?_
      refine s_skip rfl rfl rfl rfl rfl ?_
      refine s1 (p_pickF rfl rfl) rfl rfl rfl ?_
      refine s1 (p_fieldAddr (fun w => fa33_7 _ w) rfl) rfl rfl rfl ?_
      refine s_step0 (st_store rfl rfl rfl sz4 (by simp)) rfl rfl ?_
      rintro _ _ rfl
      refine s_perm (T := blk gt [.bool (decide (bAnd .u32 f 1 ≠ 0)), .int .i64 (1 + w % 40), .int .i64 (1 + h % 40), .int .i64 (f / 2 % 4), .int .i64 (shAlpha f), .int .i64 (shDepth f), .int .i64 (shPack f), .bool false, .int .i64 (0), .int .i64 (0), .int .i64 (0)] 33 :: _) f0 ?_
      refine s_nil ?_
      refine x_next ?_
      refine c_seq ?_
      have hm1 : 0 ≤ f / 8192 % (1 + h % 40) := Int.emod_nonneg _ (by omega)
      have hm2 : f / 8192 % (1 + h % 40) < 1 + h % 40 := Int.emod_lt_of_pos _ (by omega)
      refine c_region ?_
      refine s1 (p_move rfl) rfl rfl rfl ?_
      refine s1 (p_shr rfl rfl (by omega) (shr32 (d := 8192) rfl (by omega))) rfl rfl rfl ?_
      refine s1 (p_conv Tryz.underlying22 Tryz.underlying3 rfl (w64 (by omega))) rfl rfl rfl ?_
      refine s1 (p_fieldAddr (fun w => fa33_2 _ w) rfl) rfl rfl rfl ?_
      refine s1 (p_load m0 Tryz.underlying3 rfl rfl rfl) rfl rfl rfl ?_
      refine s1 (p_rem rfl rfl (by omega) (tm (by omega))) rfl rfl rfl ?_
      refine s1 (p_add rfl rfl (w64 (by omega))) rfl rfl rfl ?_
      refine s1 (p_fieldAddr (fun w => fa33_10 _ w) rfl) rfl rfl rfl ?_
      refine s_step0 (st_store rfl rfl rfl sz3 (by simp)) rfl rfl ?_
      rintro _ _ rfl
      refine s_nil ?_
      refine x_next ?_
      refine c_seq ?_
      refine c_seq ?_
      refine c_region ?_
      refine s1 (p_move rfl) rfl rfl rfl ?_
      refine s1 (p_and rfl rfl rfl) rfl rfl rfl ?_
      refine s1 (p_ne rfl rfl) rfl rfl rfl ?_
      refine s_nil ?_
      refine x_next ?_
      refine c_if rfl (fun h85 => ?_) (fun h85 => ?_)
      · refine c_seq ?_
        refine c_region ?_
        refine s1 (p_move rfl) rfl rfl rfl ?_
        refine s1 (p_shr rfl rfl (by omega) (shr32 (d := 1048576) rfl (by omega))) rfl rfl rfl ?_
        refine s1 (p_rem rfl rfl (by omega) (tm (by omega))) rfl rfl rfl ?_
        refine s1 (p_conv Tryz.underlying22 Tryz.underlying3 rfl (w64 (by omega))) rfl rfl rfl ?_
        refine s1 (p_mul rfl rfl (w64 (by omega))) rfl rfl rfl ?_
        refine s1 (p_add rfl rfl (w64 (by omega))) rfl rfl rfl ?_
        refine s1 (p_move rfl) rfl rfl rfl ?_
        refine s1 (p_shr rfl rfl (by omega) (shr32 (d := 2097152) rfl (by omega))) rfl rfl rfl ?_
        refine s1 (p_rem rfl rfl (by omega) (tm (by omega))) rfl rfl rfl ?_
        refine s1 (p_conv Tryz.underlying22 Tryz.underlying3 rfl (w64 (by omega))) rfl rfl rfl ?_
        refine s1 (p_mul rfl rfl (w64 (by omega))) rfl rfl rfl ?_
        refine s1 (p_add rfl rfl (w64 (by omega))) rfl rfl rfl ?_
        refine s1 (p_fieldAddr (fun w => fa33_8 _ w) rfl) rfl rfl rfl ?_
        refine s_step0 (st_store rfl rfl rfl sz3 (by simp)) rfl rfl ?_
        rintro _ _ rfl
        refine s1 (p_fieldAddr (fun w => fa33_9 _ w) rfl) rfl rfl rfl ?_
        refine s_step0 (st_store rfl rfl rfl sz3 (by simp)) rfl rfl ?_
        rintro _ _ rfl
        refine s_nil ?_
        refine x_next ?_
        have hb1 : (16 + 16 * (f / 1048576 % 2)) * (1 + w % 3) ≤ 96 := by
          have h1 : f / 1048576 % 2 = 0 ∨ f / 1048576 % 2 = 1 := by omega
          rcases h1 with h1 | h1 <;> rw [h1] <;> omega
        have hb0 : 0 ≤ (16 + 16 * (f / 1048576 % 2)) * (1 + w % 3) := Int.mul_nonneg (by omega) (by omega)
        refine c_region ?_
        refine s1 (p_fieldAddr (fun w => fa33_8 _ w) rfl) rfl rfl rfl ?_
        refine s1 (p_load m0 Tryz.underlying3 rfl rfl rfl) rfl rfl rfl ?_
        refine s1 (p_move rfl) rfl rfl rfl ?_
        refine s1 (p_conv Tryz.underlying5 Tryz.underlying3 rfl (w64 (by omega))) rfl rfl rfl ?_
        refine s1 (p_rem rfl rfl (by omega) (tm (by omega))) rfl rfl rfl ?_
        refine s1 (p_add rfl rfl (w64 (by omega))) rfl rfl rfl ?_
        refine s1 (p_mul rfl rfl (w64 (by omega))) rfl rfl rfl ?_
        refine s1 (p_fieldAddr (fun w => fa33_1 _ w) rfl) rfl rfl rfl ?_
        refine s_step0 (st_store rfl rfl rfl sz3 (by simp)) rfl rfl ?_
        rintro _ _ rfl
        refine s_nil ?_
        refine x_next ?_
        refine c_seq ?_
        refine c_region ?_
        refine s1 (p_loadA m0 Tryz.underlying33 rfl sz33 rfl) rfl rfl rfl ?_
        refine s_perm f1 ?_
        refine s_step0 (st_storeA rfl rfl rfl sz33 rfl) rfl rfl ?_
        rintro _ _ rfl
        refine s_nil ?_
        refine x_next ?_
        refine c_ret ?_
        refine x_done_cell rfl rfl m0 Tryz.underlying33 rfl rfl ?_
        exact ⟨by unfold shp; rw [if_pos h85, hah]; rfl, _, _, rfl⟩
      · refine c_skip ?_
        refine x_next ?_
        refine c_seq ?_
        refine c_region ?_
        refine s1 (p_loadA m0 Tryz.underlying33 rfl sz33 rfl) rfl rfl rfl ?_
        refine s_perm f1 ?_
        refine s_step0 (st_storeA rfl rfl rfl sz33 rfl) rfl rfl ?_
        rintro _ _ rfl
        refine s_nil ?_
        refine x_next ?_
        refine c_ret ?_
        refine x_done_cell rfl rfl m0 Tryz.underlying33 rfl rfl ?_
        exact ⟨by unfold shp; rw [if_neg h85, hah]; rfl, _, _, rfl⟩
    · have hah : shAhead f = true := by simp_all [shAhead]
      refine c_region ?_
      refine s1 (p_move rfl) rfl rfl rfl ?_
      refine s1 (p_and rfl rfl rfl) rfl rfl rfl ?_
      refine s1 (pb_true (p_ne rfl rfl) hq.1) rfl rfl rfl ?_
      refine s1 (p_move rfl) rfl rfl rfl ?_
      refine sg1 (p_fieldAddr (fun w => fa33_5 _ w) rfl) rfl rfl rfl rfl ?_
      refine sg1 (p_load m0 Tryz.underlying3 rfl rfl rfl) rfl rfl rfl rfl ?_
      refine sg1 (pb_true (p_ge rfl rfl) hq.2.1) rfl rfl rfl rfl ?_
      refine s1 (p_pickT rfl rfl) rfl rfl rfl ?_
      refine s1 (p_move rfl) rfl rfl rfl ?_
      refine sg1 (p_fieldAddr (fun w => fa33_6 _ w) rfl) rfl rfl rfl rfl ?_
      refine sg1 (p_load m0 Tryz.underlying3 rfl rfl rfl) rfl rfl rfl rfl ?_
      refine sg1 (pb_true (p_eq rfl rfl) hq.2.2) rfl rfl rfl rfl ?_
      refine sg1 (p_move rfl) rfl rfl rfl rfl ?_
      refine s_skip rfl rfl rfl rfl rfl ?_
      refine s_skip rfl rfl rfl rfl rfl ?_
      refine s_skip rfl rfl rfl rfl rfl ?_
      refine sg1 (p_pickT rfl rfl) rfl rfl rfl rfl ?_
      refine s1 (p_pickT rfl rfl) rfl rfl rfl ?_
      refine s1 (p_fieldAddr (fun w => fa33_7 _ w) rfl) rfl rfl rfl ?_
      refine s_step0 (st_store rfl rfl rfl sz4 (by simp)) rfl rfl ?_
      rintro _ _ rfl
      refine s_perm (T := blk gt [.bool (decide (bAnd .u32 f 1 ≠ 0)), .int .i64 (1 + w % 40), .int .i64 (1 + h % 40), .int .i64 (f / 2 % 4), .int .i64 (shAlpha f), .int .i64 (shDepth f), .int .i64 (shPack f), .bool true, .int .i64 (0), .int .i64 (0), .int .i64 (0)] 33 :: _) f0 ?_
      refine s_nil ?_
      refine x_next ?_
      refine c_seq ?_
      have hm1 : 0 ≤ f / 8192 % (1 + h % 40) := Int.emod_nonneg _ (by omega)
      have hm2 : f / 8192 % (1 + h % 40) < 1 + h % 40 := Int.emod_lt_of_pos _ (by omega)
      refine c_region ?_
      refine s1 (p_move rfl) rfl rfl rfl ?_
      refine s1 (p_shr rfl rfl (by omega) (shr32 (d := 8192) rfl (by omega))) rfl rfl rfl ?_
      refine s1 (p_conv Tryz.underlying22 Tryz.underlying3 rfl (w64 (by omega))) rfl rfl rfl ?_
      refine s1 (p_fieldAddr (fun w => fa33_2 _ w) rfl) rfl rfl rfl ?_
      refine s1 (p_load m0 Tryz.underlying3 rfl rfl rfl) rfl rfl rfl ?_
      refine s1 (p_rem rfl rfl (by omega) (tm (by omega))) rfl rfl rfl ?_
      refine s1 (p_add rfl rfl (w64 (by omega))) rfl rfl rfl ?_
      refine s1 (p_fieldAddr (fun w => fa33_10 _ w) rfl) rfl rfl rfl ?_
      refine s_step0 (st_store rfl rfl rfl sz3 (by simp)) rfl rfl ?_
      rintro _ _ rfl
      refine s_nil ?_
      refine x_next ?_
      refine c_seq ?_
      refine c_seq ?_
      refine c_region ?_
      refine s1 (p_move rfl) rfl rfl rfl ?_
      refine s1 (p_and rfl rfl rfl) rfl rfl rfl ?_
      refine s1 (p_ne rfl rfl) rfl rfl rfl ?_
      refine s_nil ?_
      refine x_next ?_
      refine c_if rfl (fun h85 => ?_) (fun h85 => ?_)
      · refine c_seq ?_
        refine c_region ?_
        refine s1 (p_move rfl) rfl rfl rfl ?_
        refine s1 (p_shr rfl rfl (by omega) (shr32 (d := 1048576) rfl (by omega))) rfl rfl rfl ?_
        refine s1 (p_rem rfl rfl (by omega) (tm (by omega))) rfl rfl rfl ?_
        refine s1 (p_conv Tryz.underlying22 Tryz.underlying3 rfl (w64 (by omega))) rfl rfl rfl ?_
        refine s1 (p_mul rfl rfl (w64 (by omega))) rfl rfl rfl ?_
        refine s1 (p_add rfl rfl (w64 (by omega))) rfl rfl rfl ?_
        refine s1 (p_move rfl) rfl rfl rfl ?_
        refine s1 (p_shr rfl rfl (by omega) (shr32 (d := 2097152) rfl (by omega))) rfl rfl rfl ?_
        refine s1 (p_rem rfl rfl (by omega) (tm (by omega))) rfl rfl rfl ?_
        refine s1 (p_conv Tryz.underlying22 Tryz.underlying3 rfl (w64 (by omega))) rfl rfl rfl ?_
        refine s1 (p_mul rfl rfl (w64 (by omega))) rfl rfl rfl ?_
        refine s1 (p_add rfl rfl (w64 (by omega))) rfl rfl rfl ?_
        refine s1 (p_fieldAddr (fun w => fa33_8 _ w) rfl) rfl rfl rfl ?_
        refine s_step0 (st_store rfl rfl rfl sz3 (by simp)) rfl rfl ?_
        rintro _ _ rfl
        refine s1 (p_fieldAddr (fun w => fa33_9 _ w) rfl) rfl rfl rfl ?_
        refine s_step0 (st_store rfl rfl rfl sz3 (by simp)) rfl rfl ?_
        rintro _ _ rfl
        refine s_nil ?_
        refine x_next ?_
        have hb1 : (16 + 16 * (f / 1048576 % 2)) * (1 + w % 3) ≤ 96 := by
          have h1 : f / 1048576 % 2 = 0 ∨ f / 1048576 % 2 = 1 := by omega
          rcases h1 with h1 | h1 <;> rw [h1] <;> omega
        have hb0 : 0 ≤ (16 + 16 * (f / 1048576 % 2)) * (1 + w % 3) := Int.mul_nonneg (by omega) (by omega)
        refine c_region ?_
        refine s1 (p_fieldAddr (fun w => fa33_8 _ w) rfl) rfl rfl rfl ?_
        refine s1 (p_load m0 Tryz.underlying3 rfl rfl rfl) rfl rfl rfl ?_
        refine s1 (p_move rfl) rfl rfl rfl ?_
        refine s1 (p_conv Tryz.underlying5 Tryz.underlying3 rfl (w64 (by omega))) rfl rfl rfl ?_
        refine s1 (p_rem rfl rfl (by omega) (tm (by omega))) rfl rfl rfl ?_
        refine s1 (p_add rfl rfl (w64 (by omega))) rfl rfl rfl ?_
        refine s1 (p_mul rfl rfl (w64 (by omega))) rfl rfl rfl ?_
        refine s1 (p_fieldAddr (fun w => fa33_1 _ w) rfl) rfl rfl rfl ?_
        refine s_step0 (st_store rfl rfl rfl sz3 (by simp)) rfl rfl ?_
        rintro _ _ rfl
        refine s_nil ?_
        refine x_next ?_
        refine c_seq ?_
        refine c_region ?_
        refine s1 (p_loadA m0 Tryz.underlying33 rfl sz33 rfl) rfl rfl rfl ?_
        refine s_perm f1 ?_
        refine s_step0 (st_storeA rfl rfl rfl sz33 rfl) rfl rfl ?_
        rintro _ _ rfl
        refine s_nil ?_
        refine x_next ?_
        refine c_ret ?_
        refine x_done_cell rfl rfl m0 Tryz.underlying33 rfl rfl ?_
        exact ⟨by unfold shp; rw [if_pos h85, hah]; rfl, _, _, rfl⟩
      · refine c_skip ?_
        refine x_next ?_
        refine c_seq ?_
        refine c_region ?_
        refine s1 (p_loadA m0 Tryz.underlying33 rfl sz33 rfl) rfl rfl rfl ?_
        refine s_perm f1 ?_
        refine s_step0 (st_storeA rfl rfl rfl sz33 rfl) rfl rfl ?_
        rintro _ _ rfl
        refine s_nil ?_
        refine x_next ?_
        refine c_ret ?_
        refine x_done_cell rfl rfl m0 Tryz.underlying33 rfl rfl ?_
        exact ⟨by unfold shp; rw [if_neg h85, hah]; rfl, _, _, rfl⟩
    · have hah : shAhead f = (decide (shPack f = 8)) := by simp_all [shAhead]
      refine c_region ?_
      refine s1 (p_move rfl) rfl rfl rfl ?_
      refine s1 (p_and rfl rfl rfl) rfl rfl rfl ?_
      refine s1 (pb_true (p_ne rfl rfl) hq.1) rfl rfl rfl ?_
      refine s1 (p_move rfl) rfl rfl rfl ?_
      refine sg1 (p_fieldAddr (fun w => fa33_5 _ w) rfl) rfl rfl rfl rfl ?_
      refine sg1 (p_load m0 Tryz.underlying3 rfl rfl rfl) rfl rfl rfl rfl ?_
      refine sg1 (pb_true (p_ge rfl rfl) hq.2.1) rfl rfl rfl rfl ?_
      refine s1 (p_pickT rfl rfl) rfl rfl rfl ?_
      refine s1 (p_move rfl) rfl rfl rfl ?_
      refine sg1 (p_fieldAddr (fun w => fa33_6 _ w) rfl) rfl rfl rfl rfl ?_
      refine sg1 (p_load m0 Tryz.underlying3 rfl rfl rfl) rfl rfl rfl rfl ?_
      refine sg1 (pb_false (p_eq rfl rfl) hq.2.2) rfl rfl rfl rfl ?_
      refine sg1 (p_move rfl) rfl rfl rfl rfl ?_
      refine sg1 (p_fieldAddr (fun w => fa33_6 _ w) rfl) rfl rfl rfl rfl ?_
      refine sg1 (p_load m0 Tryz.underlying3 rfl rfl rfl) rfl rfl rfl rfl ?_
      refine sg1 (p_eq rfl rfl) rfl rfl rfl rfl ?_
      refine sg1 (p_pickF rfl rfl) rfl rfl rfl rfl ?_
      refine s1 (p_pickT rfl rfl) rfl rfl rfl ?_
      refine s1 (p_fieldAddr (fun w => fa33_7 _ w) rfl) rfl rfl rfl ?_
      refine s_step0 (st_store rfl rfl rfl sz4 (by simp)) rfl rfl ?_
      rintro _ _ rfl
      refine s_perm (T := blk gt [.bool (decide (bAnd .u32 f 1 ≠ 0)), .int .i64 (1 + w % 40), .int .i64 (1 + h % 40), .int .i64 (f / 2 % 4), .int .i64 (shAlpha f), .int .i64 (shDepth f), .int .i64 (shPack f), .bool (decide (shPack f = 8)), .int .i64 (0), .int .i64 (0), .int .i64 (0)] 33 :: _) f0 ?_
      refine s_nil ?_
      refine x_next ?_
      refine c_seq ?_
      have hm1 : 0 ≤ f / 8192 % (1 + h % 40) := Int.emod_nonneg _ (by omega)
      have hm2 : f / 8192 % (1 + h % 40) < 1 + h % 40 := Int.emod_lt_of_pos _ (by omega)
      refine c_region ?_
      refine s1 (p_move rfl) rfl rfl rfl ?_
      refine s1 (p_shr rfl rfl (by omega) (shr32 (d := 8192) rfl (by omega))) rfl rfl rfl ?_
      refine s1 (p_conv Tryz.underlying22 Tryz.underlying3 rfl (w64 (by omega))) rfl rfl rfl ?_
      refine s1 (p_fieldAddr (fun w => fa33_2 _ w) rfl) rfl rfl rfl ?_
      refine s1 (p_load m0 Tryz.underlying3 rfl rfl rfl) rfl rfl rfl ?_
      refine s1 (p_rem rfl rfl (by omega) (tm (by omega))) rfl rfl rfl ?_
      refine s1 (p_add rfl rfl (w64 (by omega))) rfl rfl rfl ?_
      refine s1 (p_fieldAddr (fun w => fa33_10 _ w) rfl) rfl rfl rfl ?_
      refine s_step0 (st_store rfl rfl rfl sz3 (by simp)) rfl rfl ?_
      rintro _ _ rfl
      refine s_nil ?_
      refine x_next ?_
      refine c_seq ?_
      refine c_seq ?_
      refine c_region ?_
      refine s1 (p_move rfl) rfl rfl rfl ?_
      refine s1 (p_and rfl rfl rfl) rfl rfl rfl ?_
      refine s1 (p_ne rfl rfl) rfl rfl rfl ?_
      refine s_nil ?_
      refine x_next ?_
      refine c_if rfl (fun h85 => ?_) (fun h85 => ?_)
      · refine c_seq ?_
        refine c_region ?_
        refine s1 (p_move rfl) rfl rfl rfl ?_
        refine s1 (p_shr rfl rfl (by omega) (shr32 (d := 1048576) rfl (by omega))) rfl rfl rfl ?_
        refine s1 (p_rem rfl rfl (by omega) (tm (by omega))) rfl rfl rfl ?_
        refine s1 (p_conv Tryz.underlying22 Tryz.underlying3 rfl (w64 (by omega))) rfl rfl rfl ?_
        refine s1 (p_mul rfl rfl (w64 (by omega))) rfl rfl rfl ?_
        refine s1 (p_add rfl rfl (w64 (by omega))) rfl rfl rfl ?_
        refine s1 (p_move rfl) rfl rfl rfl ?_
        refine s1 (p_shr rfl rfl (by omega) (shr32 (d := 2097152) rfl (by omega))) rfl rfl rfl ?_
        refine s1 (p_rem rfl rfl (by omega) (tm (by omega))) rfl rfl rfl ?_
        refine s1 (p_conv Tryz.underlying22 Tryz.underlying3 rfl (w64 (by omega))) rfl rfl rfl ?_
        refine s1 (p_mul rfl rfl (w64 (by omega))) rfl rfl rfl ?_
        refine s1 (p_add rfl rfl (w64 (by omega))) rfl rfl rfl ?_
        refine s1 (p_fieldAddr (fun w => fa33_8 _ w) rfl) rfl rfl rfl ?_
        refine s_step0 (st_store rfl rfl rfl sz3 (by simp)) rfl rfl ?_
        rintro _ _ rfl
        refine s1 (p_fieldAddr (fun w => fa33_9 _ w) rfl) rfl rfl rfl ?_
        refine s_step0 (st_store rfl rfl rfl sz3 (by simp)) rfl rfl ?_
        rintro _ _ rfl
        refine s_nil ?_
        refine x_next ?_
        have hb1 : (16 + 16 * (f / 1048576 % 2)) * (1 + w % 3) ≤ 96 := by
          have h1 : f / 1048576 % 2 = 0 ∨ f / 1048576 % 2 = 1 := by omega
          rcases h1 with h1 | h1 <;> rw [h1] <;> omega
        have hb0 : 0 ≤ (16 + 16 * (f / 1048576 % 2)) * (1 + w % 3) := Int.mul_nonneg (by omega) (by omega)
        refine c_region ?_
        refine s1 (p_fieldAddr (fun w => fa33_8 _ w) rfl) rfl rfl rfl ?_
        refine s1 (p_load m0 Tryz.underlying3 rfl rfl rfl) rfl rfl rfl ?_
        refine s1 (p_move rfl) rfl rfl rfl ?_
        refine s1 (p_conv Tryz.underlying5 Tryz.underlying3 rfl (w64 (by omega))) rfl rfl rfl ?_
        refine s1 (p_rem rfl rfl (by omega) (tm (by omega))) rfl rfl rfl ?_
        refine s1 (p_add rfl rfl (w64 (by omega))) rfl rfl rfl ?_
        refine s1 (p_mul rfl rfl (w64 (by omega))) rfl rfl rfl ?_
        refine s1 (p_fieldAddr (fun w => fa33_1 _ w) rfl) rfl rfl rfl ?_
        refine s_step0 (st_store rfl rfl rfl sz3 (by simp)) rfl rfl ?_
        rintro _ _ rfl
        refine s_nil ?_
        refine x_next ?_
        refine c_seq ?_
        refine c_region ?_
        refine s1 (p_loadA m0 Tryz.underlying33 rfl sz33 rfl) rfl rfl rfl ?_
        refine s_perm f1 ?_
        refine s_step0 (st_storeA rfl rfl rfl sz33 rfl) rfl rfl ?_
        rintro _ _ rfl
        refine s_nil ?_
        refine x_next ?_
        refine c_ret ?_
        refine x_done_cell rfl rfl m0 Tryz.underlying33 rfl rfl ?_
        exact ⟨by unfold shp; rw [if_pos h85, hah]; rfl, _, _, rfl⟩
      · refine c_skip ?_
        refine x_next ?_
        refine c_seq ?_
        refine c_region ?_
        refine s1 (p_loadA m0 Tryz.underlying33 rfl sz33 rfl) rfl rfl rfl ?_
        refine s_perm f1 ?_
        refine s_step0 (st_storeA rfl rfl rfl sz33 rfl) rfl rfl ?_
        rintro _ _ rfl
        refine s_nil ?_
        refine x_next ?_
        refine c_ret ?_
        refine x_done_cell rfl rfl m0 Tryz.underlying33 rfl rfl ?_
        exact ⟨by unfold shp; rw [if_neg h85, hah]; rfl, _, _, rfl⟩

end V
end Go.Proofs.YtaflcjoagfnhfaaGreatDoor
