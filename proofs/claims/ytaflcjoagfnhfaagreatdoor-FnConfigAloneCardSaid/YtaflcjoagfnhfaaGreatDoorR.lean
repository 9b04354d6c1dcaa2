/- A walk: the reference writes a file. -/
import Derived.Test.YtaflcjoagfnhfaaGreatDoorQ
namespace Go.Proofs.YtaflcjoagfnhfaaGreatDoor
namespace V
open Go Go.Proofs

def PB (ws : List (Option Addr × Nat × List Int)) : Prop := ∀ x ∈ ws, 1 ≤ x.2.2.length ∧ x.2.2.length ≤ 300000
theorem PB.snoc {ws : List (Option Addr × Nat × List Int)} (h : PB ws) {A : Option Addr} {c : Nat} {l : List Int} (h1 : 1 ≤ l.length) (h2 : l.length ≤ 300000) : PB (ws ++ [(A, c, l)]) := by
  intro x hx
  rcases List.mem_append.1 hx with hx | hx
  · exact h x hx
  · simp only [List.mem_singleton] at hx; subst hx; exact ⟨h1, h2⟩
theorem NB.nil : NB [] := fun _ h => by cases h
theorem NB.snoc {l : List Int} (h : NB l) {x : Int} (h1 : 0 ≤ x ∧ x ≤ 4000000000) : NB (l ++ [x]) := by
  intro y hy
  rcases List.mem_append.1 hy with hy | hy
  · exact h y hy
  · simp only [List.mem_singleton] at hy; subst hy; exact h1
theorem rep_snoc (k : Nat) (x : Int) : in64 (List.replicate k x) ++ [Value.int .i64 x] = in64 (List.replicate (k + 1) x) := by
  rw [in64_push, List.replicate_succ']

theorem EInv.first {F : List As} {t : Tif} {k i dc pc2 sc g1 g2 g3 g4 : Nat} {dA pA sA : Option Addr} {pl sl : List Int} (hC : t.chan = (k : Int)) (hpl : pl.length = i) (hsl : sl.length = i) :
    EInv F (own (.slice (some ⟨g4, 0, none⟩) 1 1) 3 1 1 (in64 [t.colour]) :: own (.slice (some ⟨g3, 0, none⟩) 1 1) 3 1 1 (in64 [t.packing]) :: own (.slice (some ⟨g2, 0, none⟩) 1 1) 3 1 1 (in64 [t.high]) :: own (.slice (some ⟨g1, 0, none⟩) 1 1) 3 1 1 (in64 [t.wide]) :: own (.slice dA k dc) 3 1 k (in64 (List.replicate k t.depth)) :: own (.slice pA i pc2) 3 1 i (in64 pl) :: own (.slice sA i sc) 3 1 i (in64 sl) :: F)
      (.slice pA i pc2) (.slice sA i sc) pl sl [⟨256, 3, .slice (some ⟨g1, 0, none⟩) 1 1, [t.wide]⟩, ⟨257, 4, .slice (some ⟨g2, 0, none⟩) 1 1, [t.high]⟩, ⟨258, 3, .slice dA k dc, List.replicate k t.depth⟩, ⟨259, 3, .slice (some ⟨g3, 0, none⟩) 1 1, [t.packing]⟩, ⟨262, 3, .slice (some ⟨g4, 0, none⟩) 1 1, [t.colour]⟩] 5 (E1 t) where
  ents := by unfold E1; rw [hC]; rfl
  len := rfl
  rd := by
    intro e he w hw
    simp only [List.mem_cons, List.not_mem_nil, or_false] at he
    rcases he with rfl | rfl | rfl | rfl | rfl
    · exact rd_own m3 w hw
    · exact rd_own m2 w hw
    · simp only [List.length_replicate]; exact rd_own m4 w hw
    · exact rd_own m1 w hw
    · exact rd_own m0 w hw
  sub := fun B hB => List.mem_cons_of_mem _ (List.mem_cons_of_mem _ (List.mem_cons_of_mem _ (List.mem_cons_of_mem _ (List.mem_cons_of_mem _ (List.mem_cons_of_mem _ (List.mem_cons_of_mem _ hB))))))
  sat := fun w h => h.tail.tail.tail.tail.tail.tail.tail
  pl := by subst hpl; exact rd_own m5
  sz := by rw [hsl]; exact rd_own m6

theorem ev_snoc2 (es : List EV) (t1 k1 : Int) (v1 : Value) (n1 : List Int) (t2 k2 : Int) (v2 : Value) (n2 : List Int) : es.flatMap EV.cells ++ [.int .i64 t1, .int .i64 k1, v1, .int .i64 t2, .int .i64 k2, v2] =
    ((es ++ [(⟨t1, k1, v1, n1⟩ : EV)]) ++ [(⟨t2, k2, v2, n2⟩ : EV)]).flatMap EV.cells := by simp [EV.cells]
theorem ev_snoc4 (es : List EV) (t1 k1 : Int) (v1 : Value) (n1 : List Int) (t2 k2 : Int) (v2 : Value) (n2 : List Int) (t3 k3 : Int) (v3 : Value) (n3 : List Int) (t4 k4 : Int) (v4 : Value) (n4 : List Int) :
    es.flatMap EV.cells ++ [.int .i64 t1, .int .i64 k1, v1, .int .i64 t2, .int .i64 k2, v2, .int .i64 t3, .int .i64 k3, v3, .int .i64 t4, .int .i64 k4, v4] =
    ((((es ++ [(⟨t1, k1, v1, n1⟩ : EV)]) ++ [(⟨t2, k2, v2, n2⟩ : EV)]) ++ [(⟨t3, k3, v3, n3⟩ : EV)]) ++ [(⟨t4, k4, v4, n4⟩ : EV)]).flatMap EV.cells := by simp [EV.cells]
theorem mem_ite {α : Type} {p : Prop} [Decidable p] {l : List α} {x : α} (h : x ∈ (if p then l else [])) : x ∈ l := by
  split at h
  · exact h
  · cases h
theorem len_ite {α : Type} {p : Prop} [Decidable p] {l : List α} : (if p then l else []).length ≤ l.length := by split <;> simp
theorem E8_len (t : Tif) (pal : List RGB) (pl sz : List Int) : (E8 t pal pl sz).length ≤ 16 := by
  have h8 : (E8 t pal pl sz).length ≤ (E7 t pal pl sz).length + 1 := by unfold E8; rw [List.length_append]; exact Nat.add_le_add_left len_ite _
  have h7 : (E7 t pal pl sz).length = (E6 t pal pl sz).length + (if t.tileW > 0 then [(⟨322, 3, [t.tileW]⟩ : Ent), ⟨323, 3, [t.tileH]⟩, ⟨324, 4, pl⟩, ⟨325, 4, sz⟩] else []).length := by unfold E7; rw [List.length_append]
  have h6 : (E6 t pal pl sz).length ≤ (E5 t pl sz).length + 1 := by unfold E6; rw [List.length_append]; exact Nat.add_le_add_left len_ite _
  have h5 : (E5 t pl sz).length ≤ (E4 t pl sz).length + 1 := by unfold E5; rw [List.length_append]; exact Nat.add_le_add_left len_ite _
  have h4 : (E4 t pl sz).length ≤ (E3 t pl).length + 2 := by unfold E4; rw [List.length_append]; exact Nat.add_le_add_left len_ite _
  have h3 : (E3 t pl).length = (E2 t pl).length + 1 := by unfold E3; rw [List.length_append]; rfl
  have h2 : (E2 t pl).length ≤ 5 + 1 := by unfold E2; rw [List.length_append]; exact Nat.add_le_add_left len_ite _
  have h77 : (if t.tileW > 0 then [(⟨322, 3, [t.tileW]⟩ : Ent), ⟨323, 3, [t.tileH]⟩, ⟨324, 4, pl⟩, ⟨325, 4, sz⟩] else []).length ≤ 4 := len_ite
  omega
theorem E8_mem {t : Tif} {pal : List RGB} {pl sz : List Int} {p : Ent → Prop} (h1 : ∀ e ∈ E1 t, p e) (hpl1 : p ⟨273, 4, pl⟩) (hch : p ⟨277, 3, [t.chan]⟩) (hrw : p ⟨278, 4, [t.rows]⟩) (hsz1 : p ⟨279, 4, sz⟩) (hah : p ⟨317, 3, [2]⟩) (hco : p ⟨320, 3, colorsL pal⟩)
    (htw : p ⟨322, 3, [t.tileW]⟩) (hth : p ⟨323, 3, [t.tileH]⟩) (hpl2 : p ⟨324, 4, pl⟩) (hsz2 : p ⟨325, 4, sz⟩) (hal : p ⟨338, 3, [t.alpha]⟩) : ∀ e ∈ E8 t pal pl sz, p e := by
  intro e he
  unfold E8 at he
  rcases List.mem_append.1 he with he | he
  · unfold E7 at he
    rcases List.mem_append.1 he with he | he
    · unfold E6 at he
      rcases List.mem_append.1 he with he | he
      · unfold E5 at he
        rcases List.mem_append.1 he with he | he
        · unfold E4 at he
          rcases List.mem_append.1 he with he | he
          · unfold E3 at he
            rcases List.mem_append.1 he with he | he
            · unfold E2 at he
              rcases List.mem_append.1 he with he | he
              · exact h1 e he
              · have := mem_ite he; simp only [List.mem_singleton] at this; subst this; assumption
            · simp only [List.mem_singleton] at he; subst he; assumption
          · have := mem_ite he; simp only [List.mem_cons, List.not_mem_nil, or_false] at this; rcases this with rfl | rfl <;> assumption
        · have := mem_ite he; simp only [List.mem_singleton] at this; subst this; assumption
      · have := mem_ite he; simp only [List.mem_singleton] at this; subst this; assumption
    · have := mem_ite he; simp only [List.mem_cons, List.not_mem_nil, or_false] at this; rcases this with rfl | rfl | rfl | rfl <;> assumption
  · have := mem_ite he; simp only [List.mem_singleton] at this; subst this; assumption
theorem E8_nums {t : Tif} {pal : List RGB} {pl sz : List Int} (hpal : pal.length = 256) (hpl : pl.length ≤ 1000) (hsz : sz.length ≤ 1000) : ∀ e ∈ E8 t pal pl sz, e.nums.length ≤ 1000 := by
  refine E8_mem ?_ hpl (by simp) (by simp) hsz (by simp) (by rw [show (colorsL pal).length = 768 from colorsL_length hpal]; omega) (by simp) (by simp) hpl hsz (by simp)
  intro e he
  simp only [E1, List.mem_cons, List.not_mem_nil, or_false] at he
  have := t.chan_pos
  rcases he with rfl | rfl | rfl | rfl | rfl <;> simp <;> omega
theorem flatI_take {l : List Int} {f : Int → List Int} {k : Nat} (h : k < l.length) : (l.take k).flatMap f ++ f (l.getD k 0) = (l.take (k + 1)).flatMap f := by
  have e1 : l.getD k 0 = l[k] := by rw [List.getD_eq_getElem?_getD, List.getElem?_eq_getElem h]; rfl
  have e2 : l.take (k + 1) = l.take k ++ [l[k]] := by rw [List.take_add_one, List.getElem?_eq_getElem h]; rfl
  rw [e1, e2, List.flatMap_append, List.flatMap_cons, List.flatMap_nil, List.append_nil]
theorem placed_snoc {big : Bool} {base : Int} {tail tail' : List Int} {ps : List (List Int)} {es : List Ent} {q : Nat} {p0 : List Int} {e0 : Ent} (hl : ps.length = q) (hold : ∀ (j : Nat) p e, ps[j]? = some p → es[j]? = some e → Placed big base tail p e)
    (hg : ∀ p e, Placed big base tail p e → Placed big base tail' p e) (he : es[q]? = some e0) (hn : Placed big base tail' p0 e0) : ∀ (j : Nat) p e, (ps ++ [p0])[j]? = some p → es[j]? = some e → Placed big base tail' p e := by
  intro j p e hp hej
  rcases Nat.lt_or_ge j q with h | h
  · rw [List.getElem?_append_left (by omega)] at hp
    exact hg _ _ (hold j p e hp hej)
  · rw [List.getElem?_append_right (by omega)] at hp
    obtain rfl : j = q := by
      rcases Nat.lt_or_ge (j - ps.length) 1 with h2 | h2
      · omega
      · rw [List.getElem?_eq_none (by simpa using h2)] at hp; cases hp
    rw [hl, Nat.sub_self] at hp
    simp only [List.getElem?_cons_zero, Option.some.injEq] at hp
    subst hp
    rw [he] at hej
    injection hej with hej
    subst hej
    exact hn
theorem back {w : World} {a b c d : As} {F G : List As} (h : Sat w (a :: b :: c :: d :: G)) (hs : ∀ B, B ∈ F → B ∈ G) (hw : ∀ w, Sat w G → Sat w F) : Sat w (a :: F) :=
  h.perm_cons (fun B hB => List.mem_cons_of_mem _ (List.mem_cons_of_mem _ (List.mem_cons_of_mem _ (hs B hB)))) (hw w h.tail.tail.tail.tail)

set_option maxHeartbeats 4000000 in
set_option maxRecDepth 100000 in
theorem write_spec {F : List As} (t : Tif) (hok : t.Ok) (A : Option Addr) (N c : Nat) (l : List Int) (hl : l.length = N) (hM : t.wide * t.high * t.chan = (N : Int)) (PA : Option Addr) (pc : Nat) (pal : List RGB) (hpal : pal.length = 256) (hrs : ∀ w, Sat w F → Reads w (.slice A N c) 1 N (in64 l)) (hrp : ∀ w, Sat w F → Reads w (.slice PA 256 pc) 4 256 (pal.flatMap c4)) :
    Fun Tryz.prog 12 [t.val, .slice A N c, .slice PA 256 pc, .int .i64 1] (F) (fun u T => ∃ B n cb b, u = .slice B n cb ∧ b.length = n ∧ n ≤ 200000000 ∧ Laid t pal b ∧ T = own (.slice B n cb) 5 1 n (by8 b) :: F) := by
  refine fun_intro Tryz.func12 rfl Tryz.ntmps12 (Nat.le_of_ble_eq_true rfl) ?_
  obtain ⟨W, hW⟩ := Int.eq_ofNat_of_zero_le (show 0 ≤ t.wide by have := hok.w; omega)
  obtain ⟨H, hH⟩ := Int.eq_ofNat_of_zero_le (show 0 ≤ t.high by have := hok.h; omega)
  obtain ⟨RW, hRW⟩ := Int.eq_ofNat_of_zero_le (show 0 ≤ t.rows by have := hok.r; omega)
  have hch := t.chan_pos
  obtain ⟨C, hC⟩ := Int.eq_ofNat_of_zero_le (show 0 ≤ t.chan by omega)
  have hok1 := hok.w
  have hok2 := hok.h
  have hok3 := hok.r
  obtain ⟨WC, hWC⟩ : ∃ q, W * C = q := ⟨_, rfl⟩
  have hWC1 : WC ≤ 400 := by rw [← hWC]; exact Nat.le_trans (Nat.mul_le_mul (show W ≤ 96 by omega) (show C ≤ 4 by omega)) (by omega)
  have hWC0 : 1 ≤ WC := by rw [← hWC]; exact Nat.mul_pos (by omega) (by omega)
  have hN : H * W * C = N := by
    have h1 : ((H * W * C : Nat) : Int) = (N : Int) := by rw [Int.natCast_mul, Int.natCast_mul, ← hW, ← hH, ← hC, Int.mul_comm t.high]; exact hM
    omega
  have hN1 : N ≤ 20000 := by rw [← hN]; exact Nat.le_trans (Nat.mul_le_mul (Nat.mul_le_mul (show H ≤ 40 by omega) (show W ≤ 96 by omega)) (show C ≤ 4 by omega)) (by omega)
  refine c_have (p := N ≤ c) (fun w h => (hrs w h).cap) ?_
  intro hNc
  refine c_seq ?_
  refine c_region ?_
  refine s_step (st_box rfl) rfl rfl rfl ?_
  rintro _ _ ⟨gt, rfl, rfl⟩
  refine s_perm (T := blk gt t.cells 33 :: _) f0 ?_
  refine s1 (p_assign rfl) rfl rfl rfl ?_
  refine s_nil ?_
  refine x_next ?_
  refine c_seq ?_
  refine c_region ?_
  refine s1 (p_loadA m0 Tryz.underlying33 rfl sz33 rfl) rfl rfl rfl ?_
  refine s_step (st_call Tryz.func20 nm20 bo20 rfl (chan_spec t)) rfl rfl rfl ?_
  rintro _ _ ⟨rfl, rfl⟩
  rw [hC]
  refine s1 (p_assign rfl) rfl rfl rfl ?_
  refine s_nil ?_
  refine x_next ?_
  refine c_seq ?_
  refine c_region ?_
  refine s_step (st_buildSlice (e := 23) (size := 1) rfl (fun w => bs60_0 w) rfl (by omega)) rfl rfl rfl ?_
  rintro _ _ ⟨g1, rfl, rfl⟩
  refine s_sat lst_new ?_
  refine s1 (p_assign rfl) rfl rfl rfl ?_
  refine s_nil ?_
  refine x_next ?_
  refine c_cut (α := (Option Addr) × (Nat) × (Nat) × (List (Option Addr × Nat × List Int))) (fun gg => gg.2.2.2.length = gg.2.1 ∧ 1 ≤ gg.2.1 ∧ gg.2.1 ≤ 100 ∧ PB gg.2.2.2) (fun gg => [(2, .slice PA 256 pc), (4, .pointer (some ⟨gt, 0, none⟩)), (9, .int .i64 (C : Int)), (10, .slice gg.1 gg.2.1 gg.2.2.1)]) (fun gg => lst (.slice gg.1 gg.2.1 gg.2.2.1) gg.2.1 gg.2.2.2 :: blk gt t.cells 33 :: F) ?_ ?_
  · refine c_seq ?_
    refine c_region ?_
    refine s1 (p_fieldAddr (fun w => fa33_8 _ w) rfl) rfl rfl rfl ?_
    refine s1 (p_load m1 Tryz.underlying3 rfl rfl rfl) rfl rfl rfl ?_
    refine s1 (p_gt rfl rfl) rfl rfl rfl ?_
    refine s_nil ?_
    refine x_next ?_
    refine c_if rfl (fun h43 => ?_) (fun h43 => ?_)
    · refine c_seq ?_
      obtain ⟨⟨hTW1, hTW2⟩, hTH1, hTH2⟩ := hok.tile.resolve_left (by omega)
      obtain ⟨TW, hTW⟩ := Int.eq_ofNat_of_zero_le (show 0 ≤ t.tileW by omega)
      obtain ⟨TH, hTH⟩ := Int.eq_ofNat_of_zero_le (show 0 ≤ t.tileH by omega)
      obtain ⟨TC, hTC⟩ : ∃ q, TW * C = q := ⟨_, rfl⟩
      have hTC1 : TC ≤ 128 := by rw [← hTC]; exact Nat.le_trans (Nat.mul_le_mul (show TW ≤ 32 by omega) (show C ≤ 4 by omega)) (by omega)
      have hTC0 : 1 ≤ TC := by rw [← hTC]; exact Nat.mul_pos (by omega) (by omega)
      refine c_region ?_
      refine s1 (p_assign rfl) rfl rfl rfl ?_
      refine s_nil ?_
      refine x_next ?_
      refine c_block ?_
      refine c_loop (α := (Nat) × (Option Addr) × (Nat) × (Nat) × (List (Option Addr × Nat × List Int))) (fun gg => gg.2.2.2.2.length = gg.2.2.1 ∧ 16 * gg.2.2.1 ≤ 8 * gg.1 ∧ gg.1 ≤ 100 ∧ (0 < gg.1 → 0 < gg.2.2.1) ∧ PB gg.2.2.2.2) (fun gg => H - gg.1) (fun gg => [(1, .slice A N c), (2, .slice PA 256 pc), (3, .int .i64 1), (4, .pointer (some ⟨gt, 0, none⟩)), (9, .int .i64 (C : Int)), (10, .slice gg.2.1 gg.2.2.1 gg.2.2.2.1), (11, .int .i64 (gg.1 : Int))]) (fun gg => lst (.slice gg.2.1 gg.2.2.1 gg.2.2.2.1) gg.2.2.1 gg.2.2.2.2 :: blk gt t.cells 33 :: F) ⟨0, _, 0, 0, []⟩ (⟨rfl, Nat.le_refl _, Nat.zero_le _, fun h => h, fun _ h => nomatch h⟩) ⟨rfl, rfl, rfl, rfl, rfl, rfl, rfl, trivial⟩ ((f1).trans f1) ?_
      rintro ⟨y, AL, nl, cL, ws⟩ hI
      replace hI : ws.length = nl ∧ 16 * nl ≤ 8 * y ∧ y ≤ 100 ∧ (0 < y → 0 < nl) ∧ PB ws := hI
      obtain ⟨hws, hny, hy, hn0, hpb⟩ := hI
      refine c_sub (L' := [(1, .slice A N c), (2, .slice PA 256 pc), (3, .int .i64 1), (4, .pointer (some ⟨gt, 0, none⟩)), (9, .int .i64 (C : Int)), (10, .slice AL nl cL), (11, .int .i64 (y : Int))]) ⟨rfl, rfl, rfl, rfl, rfl, rfl, rfl, trivial⟩ ?_
      refine c_perm (T := lst (.slice AL nl cL) nl ws :: blk gt t.cells 33 :: F) f0 ?_
      refine c_seq ?_
      refine c_seq ?_
      refine c_region ?_
      refine s1 (p_move rfl) rfl rfl rfl ?_
      refine s1 (p_fieldAddr (fun w => fa33_2 _ w) rfl) rfl rfl rfl ?_
      refine s1 (pv (p_load m1 Tryz.underlying3 rfl rfl rfl) (congrArg (Value.int .i64) hH)) rfl rfl rfl ?_
      refine s1 (p_lt rfl rfl) rfl rfl rfl ?_
      refine s_nil ?_
      refine x_next ?_
      refine c_if rfl (fun h47 => ?_) (fun h47 => ?_)
      · refine c_skip ?_
        refine x_next ?_
        refine c_seq ?_
        refine c_block ?_
        refine c_seq ?_
        refine c_region ?_
        refine s1 (p_assign rfl) rfl rfl rfl ?_
        refine s_nil ?_
        refine x_next ?_
        refine c_block ?_
        refine c_loop (α := (Nat) × (Option Addr) × (Nat) × (Nat) × (List (Option Addr × Nat × List Int))) (fun gg => gg.2.2.2.2.length = gg.2.2.1 ∧ 16 * gg.2.2.1 ≤ 8 * y + gg.1 ∧ gg.1 ≤ W + 31 ∧ (0 < y → 0 < gg.2.2.1) ∧ (0 < gg.1 → 0 < gg.2.2.1) ∧ PB gg.2.2.2.2) (fun gg => W - gg.1) (fun gg => [(1, .slice A N c), (2, .slice PA 256 pc), (3, .int .i64 1), (4, .pointer (some ⟨gt, 0, none⟩)), (9, .int .i64 (C : Int)), (10, .slice gg.2.1 gg.2.2.1 gg.2.2.2.1), (11, .int .i64 (y : Int)), (12, .int .i64 (gg.1 : Int))]) (fun gg => lst (.slice gg.2.1 gg.2.2.1 gg.2.2.2.1) gg.2.2.1 gg.2.2.2.2 :: blk gt t.cells 33 :: F) ⟨0, AL, nl, cL, ws⟩ (⟨hws, hny, Nat.zero_le _, hn0, fun h => absurd h (Nat.lt_irrefl _), hpb⟩) ⟨rfl, rfl, rfl, rfl, rfl, rfl, rfl, rfl, trivial⟩ ((f1).trans f1) ?_
        rintro ⟨x, AL, nl, cL, ws⟩ hI
        replace hI : ws.length = nl ∧ 16 * nl ≤ 8 * y + x ∧ x ≤ W + 31 ∧ (0 < y → 0 < nl) ∧ (0 < x → 0 < nl) ∧ PB ws := hI
        obtain ⟨hws, hny, hx, hn0, hx0, hpb⟩ := hI
        refine c_sub (L' := [(1, .slice A N c), (2, .slice PA 256 pc), (3, .int .i64 1), (4, .pointer (some ⟨gt, 0, none⟩)), (9, .int .i64 (C : Int)), (10, .slice AL nl cL), (11, .int .i64 (y : Int)), (12, .int .i64 (x : Int))]) ⟨rfl, rfl, rfl, rfl, rfl, rfl, rfl, rfl, trivial⟩ ?_
        refine c_perm (T := lst (.slice AL nl cL) nl ws :: blk gt t.cells 33 :: F) f0 ?_
        refine c_seq ?_
        refine c_seq ?_
        refine c_region ?_
        refine s1 (p_move rfl) rfl rfl rfl ?_
        refine s1 (p_fieldAddr (fun w => fa33_1 _ w) rfl) rfl rfl rfl ?_
        refine s1 (pv (p_load m1 Tryz.underlying3 rfl rfl rfl) (congrArg (Value.int .i64) hW)) rfl rfl rfl ?_
        refine s1 (p_lt rfl rfl) rfl rfl rfl ?_
        refine s_nil ?_
        refine x_next ?_
        refine c_if rfl (fun h55 => ?_) (fun h55 => ?_)
        · refine c_skip ?_
          refine x_next ?_
          refine c_seq ?_
          refine c_block ?_
          refine c_seq ?_
          refine c_region ?_
          refine s_step (st_buildSlice (e := 5) (size := 1) rfl (fun w => bs23_0 w) rfl (by omega)) rfl rfl rfl ?_
          rintro _ _ ⟨g2, rfl, rfl⟩
          refine s1 (p_assign rfl) rfl rfl rfl ?_
          refine s_nil ?_
          refine x_next ?_
          refine c_seq ?_
          refine c_seq ?_
          refine c_region ?_
          refine s1 (p_fieldAddr (fun w => fa33_9 _ w) rfl) rfl rfl rfl ?_
          refine s1 (pv (p_load m2 Tryz.underlying3 rfl rfl rfl) (congrArg (Value.int .i64) hTH)) rfl rfl rfl ?_
          refine s1 (p_move rfl) rfl rfl rfl ?_
          refine s_nil ?_
          refine x_next ?_
          refine c_block ?_
          refine c_loop (α := (Nat) × (Option Addr) × (Nat) × (Nat) × (List Int)) (fun gg => gg.1 ≤ TH ∧ gg.2.2.2.2.length = gg.2.2.1 ∧ gg.2.2.1 ≤ 256 * gg.1 ∧ (0 < gg.1 → 0 < gg.2.2.1)) (fun gg => TH - gg.1) (fun gg => [(1, .slice A N c), (2, .slice PA 256 pc), (3, .int .i64 1), (4, .pointer (some ⟨gt, 0, none⟩)), (9, .int .i64 (C : Int)), (10, .slice AL nl cL), (11, .int .i64 (y : Int)), (12, .int .i64 (x : Int)), (13, .slice gg.2.1 gg.2.2.1 gg.2.2.2.1), (62, .int .i64 (TH : Int)), (63, .int .i64 (gg.1 : Int))]) (fun gg => own (.slice gg.2.1 gg.2.2.1 gg.2.2.2.1) 5 1 gg.2.2.1 (by8 gg.2.2.2.2) :: lst (.slice AL nl cL) nl ws :: blk gt t.cells 33 :: F) ⟨0, _, 0, 0, []⟩ (⟨Nat.zero_le _, rfl, Nat.zero_le _, fun h => h⟩) ⟨rfl, rfl, rfl, rfl, rfl, rfl, rfl, rfl, rfl, rfl, rfl, trivial⟩ (((f2).trans f2).trans f2) ?_
          rintro ⟨j, B, m, cb, lo⟩ hI
          replace hI : j ≤ TH ∧ lo.length = m ∧ m ≤ 256 * j ∧ (0 < j → 0 < m) := hI
          obtain ⟨hj, hlo, hm, hm0⟩ := hI
          refine c_sub (L' := [(1, .slice A N c), (2, .slice PA 256 pc), (3, .int .i64 1), (4, .pointer (some ⟨gt, 0, none⟩)), (9, .int .i64 (C : Int)), (10, .slice AL nl cL), (11, .int .i64 (y : Int)), (12, .int .i64 (x : Int)), (13, .slice B m cb), (62, .int .i64 (TH : Int)), (63, .int .i64 (j : Int))]) ⟨rfl, rfl, rfl, rfl, rfl, rfl, rfl, rfl, rfl, rfl, rfl, trivial⟩ ?_
          refine c_perm (T := own (.slice B m cb) 5 1 m (by8 lo) :: lst (.slice AL nl cL) nl ws :: blk gt t.cells 33 :: F) f0 ?_
          refine c_seq ?_
          refine c_region ?_
          refine s1 (p_lt rfl rfl) rfl rfl rfl ?_
          refine s_nil ?_
          refine x_next ?_
          refine c_seq ?_
          refine c_if rfl (fun h64 => ?_) (fun h64 => ?_)
          · refine c_skip ?_
            refine x_next ?_
            refine c_seq ?_
            refine c_block ?_
            refine c_seq ?_
            refine c_region ?_
            refine s1 (p_move rfl) rfl rfl rfl ?_
            refine s1 (p_assign rfl) rfl rfl rfl ?_
            refine s_nil ?_
            refine x_next ?_
            refine c_seq ?_
            refine c_region ?_
            refine s_step (st_buildSlice (e := 3) (size := 1) rfl (fun w => bs43_0 w) rfl (by omega)) rfl rfl rfl ?_
            rintro _ _ ⟨g3, rfl, rfl⟩
            refine s1 (p_assign rfl) rfl rfl rfl ?_
            refine s_nil ?_
            refine x_next ?_
            refine c_seq ?_
            refine c_seq ?_
            refine c_region ?_
            refine s1 (p_fieldAddr (fun w => fa33_8 _ w) rfl) rfl rfl rfl ?_
            refine s1 (pv (p_load m3 Tryz.underlying3 rfl rfl rfl) (congrArg (Value.int .i64) hTW)) rfl rfl rfl ?_
            refine s1 (p_move rfl) rfl rfl rfl ?_
            refine s1 (p_mul rfl rfl (mulE hTC (by omega))) rfl rfl rfl ?_
            refine s1 (p_move rfl) rfl rfl rfl ?_
            refine s_nil ?_
            refine x_next ?_
            refine c_block ?_
            refine c_loop (α := (Nat) × (Option Addr) × (Nat) × (List Int)) (fun gg => gg.1 ≤ TC ∧ gg.2.2.2.length = gg.1) (fun gg => TC - gg.1) (fun gg => [(1, .slice A N c), (2, .slice PA 256 pc), (3, .int .i64 1), (4, .pointer (some ⟨gt, 0, none⟩)), (9, .int .i64 (C : Int)), (10, .slice AL nl cL), (11, .int .i64 (y : Int)), (12, .int .i64 (x : Int)), (13, .slice B m cb), (62, .int .i64 (TH : Int)), (63, .int .i64 (j : Int)), (14, .int .i64 (j : Int)), (15, .slice gg.2.1 gg.1 gg.2.2.1), (70, .int .i64 (TC : Int)), (71, .int .i64 (gg.1 : Int))]) (fun gg => own (.slice gg.2.1 gg.1 gg.2.2.1) 3 1 gg.1 (in64 gg.2.2.2) :: own (.slice B m cb) 5 1 m (by8 lo) :: lst (.slice AL nl cL) nl ws :: blk gt t.cells 33 :: F) ⟨0, _, 0, []⟩ (⟨Nat.zero_le _, rfl⟩) ⟨rfl, rfl, rfl, rfl, rfl, rfl, rfl, rfl, rfl, rfl, rfl, rfl, rfl, rfl, rfl, trivial⟩ ((((f3).trans f3).trans f3).trans f3) ?_
            rintro ⟨i, Br, cr, lr⟩ hI
            replace hI : i ≤ TC ∧ lr.length = i := hI
            obtain ⟨hi, hlr⟩ := hI
            refine c_sub (L' := [(1, .slice A N c), (2, .slice PA 256 pc), (3, .int .i64 1), (4, .pointer (some ⟨gt, 0, none⟩)), (9, .int .i64 (C : Int)), (10, .slice AL nl cL), (11, .int .i64 (y : Int)), (12, .int .i64 (x : Int)), (13, .slice B m cb), (62, .int .i64 (TH : Int)), (63, .int .i64 (j : Int)), (14, .int .i64 (j : Int)), (15, .slice Br i cr), (70, .int .i64 (TC : Int)), (71, .int .i64 (i : Int))]) ⟨rfl, rfl, rfl, rfl, rfl, rfl, rfl, rfl, rfl, rfl, rfl, rfl, rfl, rfl, rfl, trivial⟩ ?_
            refine c_perm (T := own (.slice Br i cr) 3 1 i (in64 lr) :: own (.slice B m cb) 5 1 m (by8 lo) :: lst (.slice AL nl cL) nl ws :: blk gt t.cells 33 :: F) f0 ?_
            refine c_seq ?_
            refine c_region ?_
            refine s1 (p_lt rfl rfl) rfl rfl rfl ?_
            refine s_nil ?_
            refine x_next ?_
            refine c_seq ?_
            refine c_if rfl (fun h72 => ?_) (fun h72 => ?_)
            · refine c_skip ?_
              refine x_next ?_
              refine c_seq ?_
              refine c_block ?_
              refine c_seq ?_
              refine c_region ?_
              refine s1 (p_move rfl) rfl rfl rfl ?_
              refine s1 (p_assign rfl) rfl rfl rfl ?_
              refine s_nil ?_
              refine x_next ?_
              refine c_seq ?_
              refine c_region ?_
              refine s1 (p_assign rfl) rfl rfl rfl ?_
              refine s_nil ?_
              refine x_next ?_
              refine c_cut (α := (Int)) (fun gg => True) (fun gg => [(1, .slice A N c), (2, .slice PA 256 pc), (3, .int .i64 1), (4, .pointer (some ⟨gt, 0, none⟩)), (9, .int .i64 (C : Int)), (10, .slice AL nl cL), (11, .int .i64 (y : Int)), (12, .int .i64 (x : Int)), (13, .slice B m cb), (62, .int .i64 (TH : Int)), (63, .int .i64 (j : Int)), (14, .int .i64 (j : Int)), (15, .slice Br i cr), (70, .int .i64 (TC : Int)), (71, .int .i64 (i : Int)), (17, .int .i64 gg)]) (fun gg => own (.slice Br i cr) 3 1 i (in64 lr) :: own (.slice B m cb) 5 1 m (by8 lo) :: lst (.slice AL nl cL) nl ws :: blk gt t.cells 33 :: F) ?_ ?_
              · refine c_seq ?_
                obtain ⟨q9, hq9⟩ : ∃ q, x * C = q := ⟨_, rfl⟩
                have hq10 : q9 ≤ 1000 := by rw [← hq9]; exact Nat.le_trans (Nat.mul_le_mul (show x ≤ 130 by omega) (show C ≤ 4 by omega)) (by omega)
                rcases three (((y + j : Nat) : Int) < (H : Int)) ((q9 : Int) + (i : Int) < (WC : Int)) with hq | hq | hq
                · refine c_region ?_
                  refine s1 (p_move rfl) rfl rfl rfl ?_
                  refine s1 (p_move rfl) rfl rfl rfl ?_
                  refine s1 (p_add rfl rfl ((w64 (by omega)).trans (show (y : Int) + (j : Int) = ((y + j : Nat) : Int) by omega))) rfl rfl rfl ?_
                  refine s1 (p_fieldAddr (fun w => fa33_2 _ w) rfl) rfl rfl rfl ?_
                  refine s1 (pv (p_load m3 Tryz.underlying3 rfl rfl rfl) (congrArg (Value.int .i64) hH)) rfl rfl rfl ?_
                  refine s1 (pb_false (p_lt rfl rfl) hq) rfl rfl rfl ?_
                  refine s1 (p_move rfl) rfl rfl rfl ?_
                  refine s_skip rfl rfl rfl rfl rfl ?_
                  refine s_skip rfl rfl rfl rfl rfl ?_
                  refine s_skip rfl rfl rfl rfl rfl ?_
                  refine s_skip rfl rfl rfl rfl rfl ?_
                  refine s_skip rfl rfl rfl rfl rfl ?_
                  refine s_skip rfl rfl rfl rfl rfl ?_
                  refine s_skip rfl rfl rfl rfl rfl ?_
                  refine s_skip rfl rfl rfl rfl rfl ?_
                  refine s_skip rfl rfl rfl rfl rfl ?_
                  refine s_skip rfl rfl rfl rfl rfl ?_
                  refine s1 (p_pickF rfl rfl) rfl rfl rfl ?_
                  refine s_nil ?_
                  refine x_next ?_
                  refine c_false rfl ?_
                  refine c_skip ?_
                  exact x_cut _ (trivial) ⟨rfl, rfl, rfl, rfl, rfl, rfl, rfl, rfl, rfl, rfl, rfl, rfl, rfl, rfl, rfl, rfl, trivial⟩ ((((f3).trans f3).trans f3).trans f3)
                · refine c_region ?_
                  refine s1 (p_move rfl) rfl rfl rfl ?_
                  refine s1 (p_move rfl) rfl rfl rfl ?_
                  refine s1 (p_add rfl rfl ((w64 (by omega)).trans (show (y : Int) + (j : Int) = ((y + j : Nat) : Int) by omega))) rfl rfl rfl ?_
                  refine s1 (p_fieldAddr (fun w => fa33_2 _ w) rfl) rfl rfl rfl ?_
                  refine s1 (pv (p_load m3 Tryz.underlying3 rfl rfl rfl) (congrArg (Value.int .i64) hH)) rfl rfl rfl ?_
                  refine s1 (pb_true (p_lt rfl rfl) hq.1) rfl rfl rfl ?_
                  refine s1 (p_move rfl) rfl rfl rfl ?_
                  refine sg1 (p_move rfl) rfl rfl rfl rfl ?_
                  refine sg1 (p_move rfl) rfl rfl rfl rfl ?_
                  refine sg1 (p_mul rfl rfl (mulE hq9 (by omega))) rfl rfl rfl rfl ?_
                  refine sg1 (p_move rfl) rfl rfl rfl rfl ?_
                  refine sg1 (p_add rfl rfl (w64 (by omega))) rfl rfl rfl rfl ?_
                  refine sg1 (p_fieldAddr (fun w => fa33_1 _ w) rfl) rfl rfl rfl rfl ?_
                  refine sg1 (pv (p_load m3 Tryz.underlying3 rfl rfl rfl) (congrArg (Value.int .i64) hW)) rfl rfl rfl rfl ?_
                  refine sg1 (p_move rfl) rfl rfl rfl rfl ?_
                  refine sg1 (p_mul rfl rfl (mulE hWC (by omega))) rfl rfl rfl rfl ?_
                  refine sg1 (pb_false (p_lt rfl rfl) hq.2) rfl rfl rfl rfl ?_
                  refine s1 (p_pickT rfl rfl) rfl rfl rfl ?_
                  refine s_nil ?_
                  refine x_next ?_
                  refine c_false rfl ?_
                  refine c_skip ?_
                  exact x_cut _ (trivial) ⟨rfl, rfl, rfl, rfl, rfl, rfl, rfl, rfl, rfl, rfl, rfl, rfl, rfl, rfl, rfl, rfl, trivial⟩ ((((f3).trans f3).trans f3).trans f3)
                · have hqa := hq.1
                  have hqb := hq.2
                  refine c_region ?_
                  refine s1 (p_move rfl) rfl rfl rfl ?_
                  refine s1 (p_move rfl) rfl rfl rfl ?_
                  refine s1 (p_add rfl rfl ((w64 (by omega)).trans (show (y : Int) + (j : Int) = ((y + j : Nat) : Int) by omega))) rfl rfl rfl ?_
                  refine s1 (p_fieldAddr (fun w => fa33_2 _ w) rfl) rfl rfl rfl ?_
                  refine s1 (pv (p_load m3 Tryz.underlying3 rfl rfl rfl) (congrArg (Value.int .i64) hH)) rfl rfl rfl ?_
                  refine s1 (pb_true (p_lt rfl rfl) hq.1) rfl rfl rfl ?_
                  refine s1 (p_move rfl) rfl rfl rfl ?_
                  refine sg1 (p_move rfl) rfl rfl rfl rfl ?_
                  refine sg1 (p_move rfl) rfl rfl rfl rfl ?_
                  refine sg1 (p_mul rfl rfl (mulE hq9 (by omega))) rfl rfl rfl rfl ?_
                  refine sg1 (p_move rfl) rfl rfl rfl rfl ?_
                  refine sg1 (p_add rfl rfl (w64 (by omega))) rfl rfl rfl rfl ?_
                  refine sg1 (p_fieldAddr (fun w => fa33_1 _ w) rfl) rfl rfl rfl rfl ?_
                  refine sg1 (pv (p_load m3 Tryz.underlying3 rfl rfl rfl) (congrArg (Value.int .i64) hW)) rfl rfl rfl rfl ?_
                  refine sg1 (p_move rfl) rfl rfl rfl rfl ?_
                  refine sg1 (p_mul rfl rfl (mulE hWC (by omega))) rfl rfl rfl rfl ?_
                  refine sg1 (pb_true (p_lt rfl rfl) hq.2) rfl rfl rfl rfl ?_
                  refine s1 (p_pickT rfl rfl) rfl rfl rfl ?_
                  refine s_nil ?_
                  refine x_next ?_
                  refine c_true rfl ?_
                  have hcb := cellB hN (show y + j < H by omega)
                  obtain ⟨q1, hq1⟩ : ∃ q, (y + j) * W = q := ⟨_, rfl⟩
                  obtain ⟨q2, hq2⟩ : ∃ q, q1 * C = q := ⟨_, rfl⟩
                  rw [hq1, hq2, hWC] at hcb
                  have hq6 : q1 ≤ 10000 := by rw [← hq1]; exact Nat.le_trans (Nat.mul_le_mul (show y + j ≤ 40 by omega) (show W ≤ 96 by omega)) (by omega)
                  refine c_region ?_
                  refine s1 (p_move rfl) rfl rfl rfl ?_
                  refine s1 (p_move rfl) rfl rfl rfl ?_
                  refine s1 (p_move rfl) rfl rfl rfl ?_
                  refine s1 (p_add rfl rfl ((w64 (by omega)).trans (show (y : Int) + (j : Int) = ((y + j : Nat) : Int) by omega))) rfl rfl rfl ?_
                  refine s1 (p_fieldAddr (fun w => fa33_1 _ w) rfl) rfl rfl rfl ?_
                  refine s1 (pv (p_load m3 Tryz.underlying3 rfl rfl rfl) (congrArg (Value.int .i64) hW)) rfl rfl rfl ?_
                  refine s1 (p_mul rfl rfl (mulE hq1 (by omega))) rfl rfl rfl ?_
                  refine s1 (p_move rfl) rfl rfl rfl ?_
                  refine s1 (p_mul rfl rfl (mulE hq2 (by omega))) rfl rfl rfl ?_
                  refine s1 (p_move rfl) rfl rfl rfl ?_
                  refine s1 (p_move rfl) rfl rfl rfl ?_
                  refine s1 (p_mul rfl rfl (mulE hq9 (by omega))) rfl rfl rfl ?_
                  refine s1 (p_add rfl rfl (w64 (by omega))) rfl rfl rfl ?_
                  refine s1 (p_move rfl) rfl rfl rfl ?_
                  refine s1 (p_add rfl rfl (w64 (by omega))) rfl rfl rfl ?_
                  refine s1 (p_index (kk := q2 + q9 + i) Tryz.underlying43 sz3 rfl rfl (fun w h => hrs w h.tail.tail.tail.tail) (by omega) (by omega) (by omega)) rfl rfl rfl ?_
                  refine s1 (p_loadE Tryz.underlying3 rfl rfl (fun w h => hrs w h.tail.tail.tail.tail) (in64_get (by omega))) rfl rfl rfl ?_
                  refine s1 (p_assign rfl) rfl rfl rfl ?_
                  refine s_nil ?_
                  exact x_cut _ (trivial) ⟨rfl, rfl, rfl, rfl, rfl, rfl, rfl, rfl, rfl, rfl, rfl, rfl, rfl, rfl, rfl, rfl, trivial⟩ ((((f3).trans f3).trans f3).trans f3)
              · rintro vv hI
                replace hI : True := hI
                refine c_sub (L' := [(1, .slice A N c), (2, .slice PA 256 pc), (3, .int .i64 1), (4, .pointer (some ⟨gt, 0, none⟩)), (9, .int .i64 (C : Int)), (10, .slice AL nl cL), (11, .int .i64 (y : Int)), (12, .int .i64 (x : Int)), (13, .slice B m cb), (62, .int .i64 (TH : Int)), (63, .int .i64 (j : Int)), (14, .int .i64 (j : Int)), (15, .slice Br i cr), (70, .int .i64 (TC : Int)), (71, .int .i64 (i : Int)), (17, .int .i64 vv)]) ⟨rfl, rfl, rfl, rfl, rfl, rfl, rfl, rfl, rfl, rfl, rfl, rfl, rfl, rfl, rfl, rfl, trivial⟩ ?_
                refine c_perm (T := own (.slice Br i cr) 3 1 i (in64 lr) :: own (.slice B m cb) 5 1 m (by8 lo) :: lst (.slice AL nl cL) nl ws :: blk gt t.cells 33 :: F) f0 ?_
                refine c_region ?_
                refine s1 (p_move rfl) rfl rfl rfl ?_
                refine s1 (p_move rfl) rfl rfl rfl ?_
                refine s_step (st_buildSlice (e := 3) (size := 1) rfl (fun w => bs43_1 _ w) rfl (by omega)) rfl rfl rfl ?_
                rintro _ _ ⟨g4, rfl, rfl⟩
                refine s_perm f1 ?_
                refine s_step (st_append (xs := in64 lr) Tryz.underlying43 inf3 rfl (by omega) rfl rfl (rd_own m1) (by simp [Value.oneCell']) ⟨by omega, by omega⟩) rfl rfl rfl ?_
                rintro _ _ ⟨A4, c4, rfl, rfl⟩
                refine s_perm f1 ?_
                refine s_sat drop0 ?_
                rw [in64_push]
                refine s1 (p_assign rfl) rfl rfl rfl ?_
                refine s_nil ?_
                refine x_block ?_
                refine x_next ?_
                refine c_region ?_
                refine s1 (p_add rfl rfl (w64 (by omega))) rfl rfl rfl ?_
                refine s1 (p_move rfl) rfl rfl rfl ?_
                refine s_nil ?_
                exact x_loop ⟨i + 1, A4, c4, lr ++ [vv]⟩ (⟨by first | omega | (dsimp only; omega), by simp [hlr]⟩) (by first | omega | (dsimp only; omega)) ⟨rfl, rfl, rfl, rfl, rfl, rfl, rfl, rfl, rfl, rfl, rfl, rfl, rfl, rfl, rfl, trivial⟩ ((((f3).trans f3).trans f3).trans f3)
            · refine c_exit ?_
              refine x_exit_then ?_
              refine x_exit_then ?_
              refine x_exit_here ?_
              refine x_next ?_
              refine c_region ?_
              refine s1 (p_move rfl) rfl rfl rfl ?_
              refine s1 (p_loadA m3 Tryz.underlying33 rfl sz33 rfl) rfl rfl rfl ?_
              refine s1 (p_move rfl) rfl rfl rfl ?_
              refine s_step (st_call Tryz.func21 nm21 bo21 rfl (rowOf_spec t Br i cr lr hlr (by omega) hok.d (rd_own m0))) rfl rfl rfl ?_
              rintro _ _ ⟨A1, c1, l3, k3, hl3, hk30, hk31, rfl, rfl⟩
              refine s_perm f2 ?_
              refine s_step (st_append (xs := by8 lo) Tryz.underlying23 inf5 rfl (by omega) rfl rfl (rd_own m1) (by8_one _) ⟨by omega, by omega⟩) rfl rfl rfl ?_
              rintro _ _ ⟨A3, c3, rfl, rfl⟩
              refine s_perm f2 ?_
              refine s_perm f2 ?_
              refine s_sat drop0 ?_
              refine s_sat drop0 ?_
              rw [by8_append]
              refine s1 (p_assign rfl) rfl rfl rfl ?_
              refine s_nil ?_
              refine x_block ?_
              refine x_next ?_
              refine c_region ?_
              refine s1 (p_add rfl rfl (w64 (by omega))) rfl rfl rfl ?_
              refine s1 (p_move rfl) rfl rfl rfl ?_
              refine s_nil ?_
              exact x_loop ⟨j + 1, A3, m + k3, c3, lo ++ l3⟩ (⟨by first | omega | (dsimp only; omega), by simp [hlo, hl3], by first | omega | (dsimp only; omega), fun _ => by have := hk30 (by omega); dsimp only; omega⟩) (by first | omega | (dsimp only; omega)) ⟨rfl, rfl, rfl, rfl, rfl, rfl, rfl, rfl, rfl, rfl, rfl, trivial⟩ (((f2).trans f2).trans f2)
          · refine c_exit ?_
            refine x_exit_then ?_
            refine x_exit_then ?_
            refine x_exit_here ?_
            refine x_next ?_
            refine c_region ?_
            refine s1 (p_move rfl) rfl rfl rfl ?_
            refine s1 (p_loadA m2 Tryz.underlying33 rfl sz33 rfl) rfl rfl rfl ?_
            refine s1 (p_move rfl) rfl rfl rfl ?_
            refine s1 (p_move rfl) rfl rfl rfl ?_
            refine s_step (st_call Tryz.func22 nm22 bo22 rfl (packed_spec t B m cb lo hlo (by omega) (by omega))) rfl rfl rfl ?_
            rintro _ _ ⟨A2, c2, l2, k2, hl2, hk1, hk2, rfl, rfl⟩
            refine s_step (st_buildSlice (e := 23) (size := 1) rfl (fun w => bs60_1 _ _ _ w) rfl (by omega)) rfl rfl rfl ?_
            rintro _ _ ⟨g5, rfl, rfl⟩
            refine s_perm f2 ?_
            refine s_step (st_appendD (xs := ws.map wv) Tryz.underlying60 inf23 rfl (by omega) rfl rfl (rd_own m1) (by simp [Value.oneCell']) ⟨by omega, by omega⟩) rfl rfl rfl ?_
            rintro _ _ ⟨A8, c8, rfl, rfl⟩
            refine s_perm f1 ?_
            refine s_sat drop0 ?_
            refine s_perm f1 ?_
            refine s_perm f1 ?_
            refine s_sat (lst_take hl2) ?_
            refine s1 (p_assign rfl) rfl rfl rfl ?_
            refine s_nil ?_
            refine x_block ?_
            refine x_next ?_
            refine c_region ?_
            refine s1 (p_move rfl) rfl rfl rfl ?_
            refine s1 (p_fieldAddr (fun w => fa33_8 _ w) rfl) rfl rfl rfl ?_
            refine s1 (pv (p_load m1 Tryz.underlying3 rfl rfl rfl) (congrArg (Value.int .i64) hTW)) rfl rfl rfl ?_
            refine s1 (p_add rfl rfl (w64 (by omega))) rfl rfl rfl ?_
            refine s1 (p_assign rfl) rfl rfl rfl ?_
            refine s_nil ?_
            exact x_loop ⟨x + TW, A8, nl + 1, c8, ws ++ [(A2, c2, l2)]⟩ (⟨by simp [hws], by first | omega | (dsimp only; omega), by first | omega | (dsimp only; omega), fun _ => Nat.succ_pos _, fun _ => Nat.succ_pos _, hpb.snoc (by omega) (by omega)⟩) (by first | omega | (dsimp only; omega)) ⟨rfl, rfl, rfl, rfl, rfl, rfl, rfl, rfl, trivial⟩ ((f1).trans f1)
        · refine c_exit ?_
          refine x_exit_then ?_
          refine x_exit_then ?_
          refine x_exit_here ?_
          refine x_block ?_
          refine x_next ?_
          refine c_region ?_
          refine s1 (p_move rfl) rfl rfl rfl ?_
          refine s1 (p_fieldAddr (fun w => fa33_9 _ w) rfl) rfl rfl rfl ?_
          refine s1 (pv (p_load m1 Tryz.underlying3 rfl rfl rfl) (congrArg (Value.int .i64) hTH)) rfl rfl rfl ?_
          refine s1 (p_add rfl rfl (w64 (by omega))) rfl rfl rfl ?_
          refine s1 (p_assign rfl) rfl rfl rfl ?_
          refine s_nil ?_
          exact x_loop ⟨y + TH, AL, nl, cL, ws⟩ (⟨hws, by first | omega | (dsimp only; omega), by first | omega | (dsimp only; omega), fun _ => by dsimp only; omega, hpb⟩) (by first | omega | (dsimp only; omega)) ⟨rfl, rfl, rfl, rfl, rfl, rfl, rfl, trivial⟩ ((f1).trans f1)
      · refine c_exit ?_
        refine x_exit_then ?_
        refine x_exit_then ?_
        refine x_exit_here ?_
        exact x_cut ⟨AL, nl, cL, ws⟩ (⟨hws, by first | omega | (dsimp only; omega), by first | omega | (dsimp only; omega), hpb⟩) ⟨rfl, rfl, rfl, rfl, trivial⟩ ((f1).trans f1)
    · refine c_seq ?_
      refine c_region ?_
      refine s1 (p_assign rfl) rfl rfl rfl ?_
      refine s_nil ?_
      refine x_next ?_
      refine c_block ?_
      refine c_loop (α := (Nat) × (Option Addr) × (Nat) × (Nat) × (List (Option Addr × Nat × List Int))) (fun gg => gg.2.2.2.2.length = gg.2.2.1 ∧ gg.2.2.1 ≤ gg.1 ∧ gg.1 ≤ 100 ∧ (0 < gg.1 → 0 < gg.2.2.1) ∧ PB gg.2.2.2.2) (fun gg => H - gg.1) (fun gg => [(1, .slice A N c), (2, .slice PA 256 pc), (3, .int .i64 1), (4, .pointer (some ⟨gt, 0, none⟩)), (9, .int .i64 (C : Int)), (10, .slice gg.2.1 gg.2.2.1 gg.2.2.2.1), (18, .int .i64 (gg.1 : Int))]) (fun gg => lst (.slice gg.2.1 gg.2.2.1 gg.2.2.2.1) gg.2.2.1 gg.2.2.2.2 :: blk gt t.cells 33 :: F) ⟨0, _, 0, 0, []⟩ (⟨rfl, Nat.le_refl _, Nat.zero_le _, fun h => h, fun _ h => nomatch h⟩) ⟨rfl, rfl, rfl, rfl, rfl, rfl, rfl, trivial⟩ ((f1).trans f1) ?_
      rintro ⟨y, AL, nl, cL, ws⟩ hI
      replace hI : ws.length = nl ∧ nl ≤ y ∧ y ≤ 100 ∧ (0 < y → 0 < nl) ∧ PB ws := hI
      obtain ⟨hws, hny, hy, hn0, hpb⟩ := hI
      refine c_sub (L' := [(1, .slice A N c), (2, .slice PA 256 pc), (3, .int .i64 1), (4, .pointer (some ⟨gt, 0, none⟩)), (9, .int .i64 (C : Int)), (10, .slice AL nl cL), (18, .int .i64 (y : Int))]) ⟨rfl, rfl, rfl, rfl, rfl, rfl, rfl, trivial⟩ ?_
      refine c_perm (T := lst (.slice AL nl cL) nl ws :: blk gt t.cells 33 :: F) f0 ?_
      refine c_seq ?_
      refine c_seq ?_
      refine c_region ?_
      refine s1 (p_move rfl) rfl rfl rfl ?_
      refine s1 (p_fieldAddr (fun w => fa33_2 _ w) rfl) rfl rfl rfl ?_
      refine s1 (pv (p_load m1 Tryz.underlying3 rfl rfl rfl) (congrArg (Value.int .i64) hH)) rfl rfl rfl ?_
      refine s1 (p_lt rfl rfl) rfl rfl rfl ?_
      refine s_nil ?_
      refine x_next ?_
      refine c_if rfl (fun h130 => ?_) (fun h130 => ?_)
      · refine c_skip ?_
        refine x_next ?_
        refine c_seq ?_
        refine c_block ?_
        refine c_seq ?_
        refine c_region ?_
        refine s_step (st_buildSlice (e := 5) (size := 1) rfl (fun w => bs23_0 w) rfl (by omega)) rfl rfl rfl ?_
        rintro _ _ ⟨g2, rfl, rfl⟩
        refine s1 (p_assign rfl) rfl rfl rfl ?_
        refine s_nil ?_
        refine x_next ?_
        refine c_seq ?_
        refine c_seq ?_
        refine c_region ?_
        refine s1 (p_move rfl) rfl rfl rfl ?_
        refine s1 (p_assign rfl) rfl rfl rfl ?_
        refine s_nil ?_
        refine x_next ?_
        refine c_block ?_
        refine c_loop (α := (Nat) × (Option Addr) × (Nat) × (Nat) × (List Int)) (fun gg => y ≤ gg.1 ∧ gg.1 ≤ H ∧ gg.2.2.2.2.length = gg.2.2.1 ∧ gg.2.2.1 ≤ 800 * (gg.1 - y) ∧ (y < gg.1 → 0 < gg.2.2.1)) (fun gg => H - gg.1) (fun gg => [(1, .slice A N c), (2, .slice PA 256 pc), (3, .int .i64 1), (4, .pointer (some ⟨gt, 0, none⟩)), (9, .int .i64 (C : Int)), (10, .slice AL nl cL), (18, .int .i64 (y : Int)), (19, .slice gg.2.1 gg.2.2.1 gg.2.2.2.1), (20, .int .i64 (gg.1 : Int))]) (fun gg => own (.slice gg.2.1 gg.2.2.1 gg.2.2.2.1) 5 1 gg.2.2.1 (by8 gg.2.2.2.2) :: lst (.slice AL nl cL) nl ws :: blk gt t.cells 33 :: F) ⟨y, _, 0, 0, []⟩ (⟨Nat.le_refl _, by dsimp only; omega, rfl, Nat.zero_le _, fun h => absurd h (Nat.lt_irrefl _)⟩) ⟨rfl, rfl, rfl, rfl, rfl, rfl, rfl, rfl, rfl, trivial⟩ (((f2).trans f2).trans f2) ?_
        rintro ⟨k, B, m, cb, lo⟩ hI
        replace hI : y ≤ k ∧ k ≤ H ∧ lo.length = m ∧ m ≤ 800 * (k - y) ∧ (y < k → 0 < m) := hI
        obtain ⟨hk1, hk2, hlo, hm, hm0⟩ := hI
        refine c_sub (L' := [(1, .slice A N c), (2, .slice PA 256 pc), (3, .int .i64 1), (4, .pointer (some ⟨gt, 0, none⟩)), (9, .int .i64 (C : Int)), (10, .slice AL nl cL), (18, .int .i64 (y : Int)), (19, .slice B m cb), (20, .int .i64 (k : Int))]) ⟨rfl, rfl, rfl, rfl, rfl, rfl, rfl, rfl, rfl, trivial⟩ ?_
        refine c_perm (T := own (.slice B m cb) 5 1 m (by8 lo) :: lst (.slice AL nl cL) nl ws :: blk gt t.cells 33 :: F) f0 ?_
        refine c_seq ?_
        refine c_seq ?_
        refine c_region ?_
        refine s1 (p_move rfl) rfl rfl rfl ?_
        refine s1 (p_fieldAddr (fun w => fa33_2 _ w) rfl) rfl rfl rfl ?_
        refine s1 (pv (p_load m2 Tryz.underlying3 rfl rfl rfl) (congrArg (Value.int .i64) hH)) rfl rfl rfl ?_
        refine s1 (p_move rfl) rfl rfl rfl ?_
        refine s1 (p_fieldAddr (fun w => fa33_10 _ w) rfl) rfl rfl rfl ?_
        refine s1 (pv (p_load m2 Tryz.underlying3 rfl rfl rfl) (congrArg (Value.int .i64) hRW)) rfl rfl rfl ?_
        refine s1 (p_add rfl rfl (w64 (by omega))) rfl rfl rfl ?_
        refine s1 (p_min rfl rfl (itemin _ _)) rfl rfl rfl ?_
        refine s1 (p_lt rfl rfl) rfl rfl rfl ?_
        refine s_nil ?_
        refine x_next ?_
        refine c_if rfl (fun h145 => ?_) (fun h145 => ?_)
        · refine c_skip ?_
          refine x_next ?_
          refine c_seq ?_
          refine c_block ?_
          have hcb := cellB hN (show k < H by omega)
          obtain ⟨q1, hq1⟩ : ∃ q, k * W = q := ⟨_, rfl⟩
          obtain ⟨q2, hq2⟩ : ∃ q, q1 * C = q := ⟨_, rfl⟩
          obtain ⟨q3, hq3⟩ : ∃ q, (k + 1) * W = q := ⟨_, rfl⟩
          obtain ⟨q4, hq4⟩ : ∃ q, q3 * C = q := ⟨_, rfl⟩
          rw [hq1, hq2, hWC] at hcb
          have hq5 : q4 = q2 + WC := by rw [← hq4, ← hq3, ← hq2, ← hq1, ← hWC, Nat.succ_mul, Nat.add_mul]
          have hq6 : q1 ≤ 10000 := by rw [← hq1]; exact Nat.le_trans (Nat.mul_le_mul (show k ≤ 40 by omega) (show W ≤ 96 by omega)) (by omega)
          have hq7 : q3 ≤ 10000 := by rw [← hq3]; exact Nat.le_trans (Nat.mul_le_mul (show k + 1 ≤ 41 by omega) (show W ≤ 96 by omega)) (by omega)
          refine c_draw 20 ([blk gt t.cells 33]) mixed ?_
          refine d_take 0 rfl (p_move rfl) rfl rfl rfl (by kernel_rfl) (fun _ h => Sat.t1 (Sat.perm (f2) h)) ?_
          refine d_take 1 rfl (p_loadA m0 Tryz.underlying33 rfl sz33 rfl) rfl rfl rfl (by kernel_rfl) (fun _ h => Sat.t1 (Sat.perm (f2) h)) ?_
          refine d_take 2 rfl (p_move rfl) rfl rfl rfl (by kernel_rfl) (fun _ h => Sat.t1 (Sat.perm (f2) h)) ?_
          refine d_take 3 rfl (p_move rfl) rfl rfl rfl (by kernel_rfl) (fun _ h => Sat.t1 (Sat.perm (f2) h)) ?_
          refine d_take 4 rfl (p_fieldAddr (fun w => fa33_1 _ w) rfl) rfl rfl rfl (by kernel_rfl) (fun _ h => Sat.t1 (Sat.perm (f2) h)) ?_
          refine d_take 5 rfl (pv (p_load m0 Tryz.underlying3 rfl rfl rfl) (congrArg (Value.int .i64) hW)) rfl rfl rfl (by kernel_rfl) (fun _ h => Sat.t1 (Sat.perm (f2) h)) ?_
          refine d_take 6 rfl (p_mul rfl rfl (mulE hq1 (by omega))) rfl rfl rfl (by kernel_rfl) (fun _ h => Sat.t1 (Sat.perm (f2) h)) ?_
          refine d_take 7 rfl (p_move rfl) rfl rfl rfl (by kernel_rfl) (fun _ h => Sat.t1 (Sat.perm (f2) h)) ?_
          refine d_take 8 rfl (p_mul rfl rfl (mulE hq2 (by omega))) rfl rfl rfl (by kernel_rfl) (fun _ h => Sat.t1 (Sat.perm (f2) h)) ?_
          refine d_take 9 rfl (p_move rfl) rfl rfl rfl (by kernel_rfl) (fun _ h => Sat.t1 (Sat.perm (f2) h)) ?_
          refine d_take 10 rfl (p_add rfl rfl ((w64 (by omega)).trans (show (k : Int) + 1 = ((k + 1 : Nat) : Int) by omega))) rfl rfl rfl (by kernel_rfl) (fun _ h => Sat.t1 (Sat.perm (f2) h)) ?_
          refine d_take 11 rfl (p_fieldAddr (fun w => fa33_1 _ w) rfl) rfl rfl rfl (by kernel_rfl) (fun _ h => Sat.t1 (Sat.perm (f2) h)) ?_
          refine d_take 12 rfl (pv (p_load m0 Tryz.underlying3 rfl rfl rfl) (congrArg (Value.int .i64) hW)) rfl rfl rfl (by kernel_rfl) (fun _ h => Sat.t1 (Sat.perm (f2) h)) ?_
          refine d_take 13 rfl (p_mul rfl rfl (mulE hq3 (by omega))) rfl rfl rfl (by kernel_rfl) (fun _ h => Sat.t1 (Sat.perm (f2) h)) ?_
          refine d_take 14 rfl (p_move rfl) rfl rfl rfl (by kernel_rfl) (fun _ h => Sat.t1 (Sat.perm (f2) h)) ?_
          refine d_take 15 rfl (p_mul rfl rfl (mulE hq4 (by omega))) rfl rfl rfl (by kernel_rfl) (fun _ h => Sat.t1 (Sat.perm (f2) h)) ?_
          refine d_take 16 rfl (p_slice (l := q2) (h := q4) Tryz.underlying43 sz3 rfl rfl rfl rfl rfl (by omega) (by omega)) rfl rfl rfl (by kernel_rfl) (fun _ h => Sat.t1 (Sat.perm (f2) h)) ?_
          refine d_step 17 rfl (by kernel_rfl) (st_call Tryz.func21 nm21 bo21 rfl (rowOf_spec t _ _ _ ((l.drop q2).take (q4 - q2)) (by simp [hl]; omega) (by omega) hok.d (rd_slice64 (fun w h => hrs w h.tail.tail.tail) (by omega) (by omega)))) rfl rfl rfl ?_
          rintro _ _ ⟨A1, c1, l3, k3, hl3, hk30, hk31, rfl, rfl⟩
          refine ⟨fun _ => (fun _ h => Sat.t1 (Sat.perm (f3) h)), ?_⟩
          refine h_perm f1 ?_
          refine d_step 18 rfl (by kernel_rfl) (st_append (xs := by8 lo) Tryz.underlying23 inf5 rfl (by omega) rfl rfl (rd_own m1) (by8_one _) ⟨by omega, by omega⟩) rfl rfl rfl ?_
          rintro _ _ ⟨A3, c3, rfl, rfl⟩
          refine ⟨fun _ => (fun _ h => Sat.t1 (Sat.perm (f3) h)), ?_⟩
          refine h_perm f1 ?_
          refine h_sat drop0 ?_
          rw [by8_append]
          refine d_take 19 rfl (p_assign rfl) rfl rfl rfl (by kernel_rfl) (fun _ h => Sat.t1 (Sat.perm (f2) h)) ?_
          refine d_done (by kernel_rfl) ?_
          refine x_block ?_
          refine x_next ?_
          refine c_region ?_
          refine s1 (p_move rfl) rfl rfl rfl ?_
          refine s1 (p_add rfl rfl (w64 (by omega))) rfl rfl rfl ?_
          refine s1 (p_assign rfl) rfl rfl rfl ?_
          refine s_nil ?_
          exact x_loop ⟨k + 1, A3, m + k3, c3, lo ++ l3⟩ (⟨by first | omega | (dsimp only; omega), by first | omega | (dsimp only; omega), by simp [hlo, hl3], by first | omega | (dsimp only; omega), fun _ => by have := hk30 (by omega); dsimp only; omega⟩) (by first | omega | (dsimp only; omega)) ⟨rfl, rfl, rfl, rfl, rfl, rfl, rfl, rfl, rfl, trivial⟩ (((f2).trans f2).trans f2)
        · refine c_exit ?_
          refine x_exit_then ?_
          refine x_exit_then ?_
          refine x_exit_here ?_
          refine x_next ?_
          refine c_region ?_
          refine s1 (p_move rfl) rfl rfl rfl ?_
          refine s1 (p_loadA m2 Tryz.underlying33 rfl sz33 rfl) rfl rfl rfl ?_
          refine s1 (p_move rfl) rfl rfl rfl ?_
          refine s1 (p_move rfl) rfl rfl rfl ?_
          refine s_step (st_call Tryz.func22 nm22 bo22 rfl (packed_spec t B m cb lo hlo (by omega) (by omega))) rfl rfl rfl ?_
          rintro _ _ ⟨A2, c2, l2, k2, hl2, hk1, hk2, rfl, rfl⟩
          refine s_step (st_buildSlice (e := 23) (size := 1) rfl (fun w => bs60_1 _ _ _ w) rfl (by omega)) rfl rfl rfl ?_
          rintro _ _ ⟨g5, rfl, rfl⟩
          refine s_perm f2 ?_
          refine s_step (st_appendD (xs := ws.map wv) Tryz.underlying60 inf23 rfl (by omega) rfl rfl (rd_own m1) (by simp [Value.oneCell']) ⟨by omega, by omega⟩) rfl rfl rfl ?_
          rintro _ _ ⟨A8, c8, rfl, rfl⟩
          refine s_perm f1 ?_
          refine s_sat drop0 ?_
          refine s_perm f1 ?_
          refine s_perm f1 ?_
          refine s_sat (lst_take hl2) ?_
          refine s1 (p_assign rfl) rfl rfl rfl ?_
          refine s_nil ?_
          refine x_block ?_
          refine x_next ?_
          refine c_region ?_
          refine s1 (p_move rfl) rfl rfl rfl ?_
          refine s1 (p_fieldAddr (fun w => fa33_10 _ w) rfl) rfl rfl rfl ?_
          refine s1 (pv (p_load m1 Tryz.underlying3 rfl rfl rfl) (congrArg (Value.int .i64) hRW)) rfl rfl rfl ?_
          refine s1 (p_add rfl rfl (w64 (by omega))) rfl rfl rfl ?_
          refine s1 (p_assign rfl) rfl rfl rfl ?_
          refine s_nil ?_
          exact x_loop ⟨y + RW, A8, nl + 1, c8, ws ++ [(A2, c2, l2)]⟩ (⟨by simp [hws], by first | omega | (dsimp only; omega), by first | omega | (dsimp only; omega), fun _ => Nat.succ_pos _, hpb.snoc (by omega) (by omega)⟩) (by first | omega | (dsimp only; omega)) ⟨rfl, rfl, rfl, rfl, rfl, rfl, rfl, trivial⟩ ((f1).trans f1)
      · refine c_exit ?_
        refine x_exit_then ?_
        refine x_exit_then ?_
        refine x_exit_here ?_
        exact x_cut ⟨AL, nl, cL, ws⟩ (⟨hws, by first | omega | (dsimp only; omega), by first | omega | (dsimp only; omega), hpb⟩) ⟨rfl, rfl, rfl, rfl, trivial⟩ ((f1).trans f1)
  · rintro ⟨AL, nl, cL, ws⟩ hI
    replace hI : ws.length = nl ∧ 1 ≤ nl ∧ nl ≤ 100 ∧ PB ws := hI
    obtain ⟨hws, hn1, hn2, hpb⟩ := hI
    refine c_sub (L' := [(2, .slice PA 256 pc), (4, .pointer (some ⟨gt, 0, none⟩)), (9, .int .i64 (C : Int)), (10, .slice AL nl cL)]) ⟨rfl, rfl, rfl, rfl, trivial⟩ ?_
    refine c_perm (T := lst (.slice AL nl cL) nl ws :: blk gt t.cells 33 :: F) f0 ?_
    refine c_seq ?_
    refine c_region ?_
    refine s_step (st_buildSlice (e := 3) (size := 1) rfl (fun w => bs43_0 w) rfl (by omega)) rfl rfl rfl ?_
    rintro _ _ ⟨g1, rfl, rfl⟩
    refine s_step (st_buildSlice (e := 3) (size := 1) rfl (fun w => bs43_0 w) rfl (by omega)) rfl rfl rfl ?_
    rintro _ _ ⟨g2, rfl, rfl⟩
    refine s_step (st_buildSlice (e := 5) (size := 1) rfl (fun w => bs23_0 w) rfl (by omega)) rfl rfl rfl ?_
    rintro _ _ ⟨g3, rfl, rfl⟩
    refine s1 (p_assign rfl) rfl rfl rfl ?_
    refine s1 (p_assign rfl) rfl rfl rfl ?_
    refine s1 (p_assign rfl) rfl rfl rfl ?_
    refine s_nil ?_
    refine x_next ?_
    refine c_seq ?_
    refine c_seq ?_
    refine c_region ?_
    refine s1 (p_move rfl) rfl rfl rfl ?_
    refine s1 (p_len Tryz.underlying60 rfl) rfl rfl rfl ?_
    refine s1 (p_move rfl) rfl rfl rfl ?_
    refine s_nil ?_
    refine x_next ?_
    refine c_block ?_
    refine c_loop (α := (Nat) × (Option Addr) × (Nat) × (List Int) × (Option Addr) × (Nat) × (List Int) × (Option Addr) × (Nat) × (Nat) × (List Int)) (fun gg => gg.1 ≤ nl ∧ gg.2.2.2.1.length = gg.1 ∧ gg.2.2.2.2.2.2.1.length = gg.1 ∧ gg.2.2.2.2.2.2.2.2.2.2.length = gg.2.2.2.2.2.2.2.2.1 ∧ gg.1 ≤ gg.2.2.2.2.2.2.2.2.1 ∧ gg.2.2.2.2.2.2.2.2.1 ≤ 300000 * gg.1 ∧ NB gg.2.2.2.1 ∧ NB gg.2.2.2.2.2.2.1) (fun gg => nl - gg.1) (fun gg => [(2, .slice PA 256 pc), (4, .pointer (some ⟨gt, 0, none⟩)), (9, .int .i64 (C : Int)), (177, .slice AL nl cL), (178, .int .i64 (nl : Int)), (179, .int .i64 (gg.1 : Int)), (21, .slice gg.2.1 gg.1 gg.2.2.1), (22, .slice gg.2.2.2.2.1 gg.1 gg.2.2.2.2.2.1), (23, .slice gg.2.2.2.2.2.2.2.1 gg.2.2.2.2.2.2.2.2.1 gg.2.2.2.2.2.2.2.2.2.1)]) (fun gg => own (.slice gg.2.1 gg.1 gg.2.2.1) 3 1 gg.1 (in64 gg.2.2.2.1) :: own (.slice gg.2.2.2.2.1 gg.1 gg.2.2.2.2.2.1) 3 1 gg.1 (in64 gg.2.2.2.2.2.2.1) :: own (.slice gg.2.2.2.2.2.2.2.1 gg.2.2.2.2.2.2.2.2.1 gg.2.2.2.2.2.2.2.2.2.1) 5 1 gg.2.2.2.2.2.2.2.2.1 (by8 gg.2.2.2.2.2.2.2.2.2.2) :: lst (.slice AL nl cL) nl ws :: blk gt t.cells 33 :: F) ⟨0, _, 0, [], _, 0, [], _, 0, 0, []⟩ (⟨Nat.zero_le _, rfl, rfl, rfl, Nat.le_refl _, Nat.le_refl _, NB.nil, NB.nil⟩) ⟨rfl, rfl, rfl, rfl, rfl, rfl, rfl, rfl, rfl, trivial⟩ (((((f4).trans f4).trans f2).trans f3).trans f4) ?_
    rintro ⟨i, pA, pc2, pl, sA, sc, sl, rA, r, rc, rl⟩ hI
    replace hI : i ≤ nl ∧ pl.length = i ∧ sl.length = i ∧ rl.length = r ∧ i ≤ r ∧ r ≤ 300000 * i ∧ NB pl ∧ NB sl := hI
    obtain ⟨hi, hpl, hsl, hrl, hr0, hr1, hpn, hsn⟩ := hI
    refine c_sub (L' := [(2, .slice PA 256 pc), (4, .pointer (some ⟨gt, 0, none⟩)), (9, .int .i64 (C : Int)), (177, .slice AL nl cL), (178, .int .i64 (nl : Int)), (179, .int .i64 (i : Int)), (21, .slice pA i pc2), (22, .slice sA i sc), (23, .slice rA r rc)]) ⟨rfl, rfl, rfl, rfl, rfl, rfl, rfl, rfl, rfl, trivial⟩ ?_
    refine c_perm (T := own (.slice pA i pc2) 3 1 i (in64 pl) :: own (.slice sA i sc) 3 1 i (in64 sl) :: own (.slice rA r rc) 5 1 r (by8 rl) :: lst (.slice AL nl cL) nl ws :: blk gt t.cells 33 :: F) f0 ?_
    refine c_seq ?_
    refine c_region ?_
    refine s1 (p_lt rfl rfl) rfl rfl rfl ?_
    refine s_nil ?_
    refine x_next ?_
    refine c_seq ?_
    refine c_if rfl (fun h180 => ?_) (fun h180 => ?_)
    · refine c_skip ?_
      refine x_next ?_
      refine c_seq ?_
      refine c_block ?_
      refine c_seq ?_
      obtain ⟨⟨Aw, cw_, lw⟩, hwd⟩ : ∃ x, ws[i]? = some x := ⟨_, List.getElem?_eq_getElem (by omega)⟩
      obtain ⟨hlw1, hlw2⟩ := hpb _ (List.mem_of_getElem? hwd)
      dsimp only at hlw1 hlw2
      refine c_region ?_
      refine s1 (p_index (kk := i) Tryz.underlying60 sz23 rfl rfl (rd_lst m3) (by omega) (by omega) (by omega)) rfl rfl rfl ?_
      refine s1 (p_loadE (u := .slice Aw lw.length cw_) Tryz.underlying23 rfl rfl (rd_lst m3) (by rw [List.getElem?_map, hwd]; rfl)) rfl rfl rfl ?_
      refine s1 (p_assign rfl) rfl rfl rfl ?_
      refine s_nil ?_
      refine x_next ?_
      refine c_seq ?_
      refine c_region ?_
      refine s1 (p_move rfl) rfl rfl rfl ?_
      refine s1 (p_move rfl) rfl rfl rfl ?_
      refine s1 (p_len Tryz.underlying23 rfl) rfl rfl rfl ?_
      refine s1 (p_add rfl rfl (w64 (by omega))) rfl rfl rfl ?_
      refine s_step (st_buildSlice (e := 3) (size := 1) rfl (fun w => bs43_1 _ w) rfl (by omega)) rfl rfl rfl ?_
      rintro _ _ ⟨g4, rfl, rfl⟩
      refine s_perm f1 ?_
      refine s_step (st_append (xs := in64 pl) Tryz.underlying43 inf3 rfl (by omega) rfl rfl (rd_own m1) (by simp [Value.oneCell']) ⟨by omega, by omega⟩) rfl rfl rfl ?_
      rintro _ _ ⟨A1, c1, rfl, rfl⟩
      refine s_perm f1 ?_
      refine s_sat drop0 ?_
      rw [in64_push]
      refine s1 (p_assign rfl) rfl rfl rfl ?_
      refine s_nil ?_
      refine x_next ?_
      refine c_seq ?_
      refine c_region ?_
      refine s1 (p_move rfl) rfl rfl rfl ?_
      refine s1 (p_move rfl) rfl rfl rfl ?_
      refine s1 (p_len Tryz.underlying23 rfl) rfl rfl rfl ?_
      refine s_step (st_buildSlice (e := 3) (size := 1) rfl (fun w => bs43_1 _ w) rfl (by omega)) rfl rfl rfl ?_
      rintro _ _ ⟨g5, rfl, rfl⟩
      refine s_perm f2 ?_
      refine s_step (st_append (xs := in64 sl) Tryz.underlying43 inf3 rfl (by omega) rfl rfl (rd_own m1) (by simp [Value.oneCell']) ⟨by omega, by omega⟩) rfl rfl rfl ?_
      rintro _ _ ⟨A2, c2, rfl, rfl⟩
      refine s_perm f1 ?_
      refine s_sat drop0 ?_
      rw [in64_push]
      refine s1 (p_assign rfl) rfl rfl rfl ?_
      refine s_nil ?_
      refine x_next ?_
      refine c_perm f4 ?_
      refine c_perm f4 ?_
      refine c_perm f2 ?_
      refine c_perm f3 ?_
      refine c_perm f4 ?_
      refine c_region ?_
      refine s1 (p_move rfl) rfl rfl rfl ?_
      refine s1 (p_move rfl) rfl rfl rfl ?_
      refine s_step (st_append (xs := by8 rl) Tryz.underlying23 inf5 rfl (by omega) rfl rfl (rd_word m3 hwd) (by8_one _) ⟨by omega, by omega⟩) rfl rfl rfl ?_
      rintro _ _ ⟨A3, c3, rfl, rfl⟩
      rw [by8_append]
      refine s1 (p_assign rfl) rfl rfl rfl ?_
      refine s_nil ?_
      refine x_block ?_
      refine x_next ?_
      refine c_region ?_
      refine s1 (p_add rfl rfl (w64 (by omega))) rfl rfl rfl ?_
      refine s1 (p_move rfl) rfl rfl rfl ?_
      refine s_nil ?_
      exact x_loop ⟨i + 1, A1, c1, pl ++ [8 + (r : Int)], A2, c2, sl ++ [(lw.length : Int)], A3, r + lw.length, c3, rl ++ lw⟩ (⟨by first | omega | (dsimp only; omega), by simp [hpl], by simp [hsl], by simp [hrl], by first | omega | (dsimp only; omega), by first | omega | (dsimp only; omega), hpn.snoc (by omega), hsn.snoc (by omega)⟩) (by first | omega | (dsimp only; omega)) ⟨rfl, rfl, rfl, rfl, rfl, rfl, rfl, rfl, rfl, trivial⟩ (((((f4).trans f4).trans f2).trans f4).trans f4)
    · refine c_exit ?_
      refine x_exit_then ?_
      refine x_exit_then ?_
      refine x_exit_here ?_
      refine x_next ?_
      refine c_cut (α := (Option Addr) × (Nat) × (Nat) × (List Int)) (fun gg => gg.2.2.2.length = gg.2.1 ∧ 1 ≤ gg.2.1 ∧ gg.2.1 ≤ 30000001) (fun gg => [(2, .slice PA 256 pc), (4, .pointer (some ⟨gt, 0, none⟩)), (9, .int .i64 (C : Int)), (21, .slice pA i pc2), (22, .slice sA i sc), (23, .slice gg.1 gg.2.1 gg.2.2.1)]) (fun gg => own (.slice pA i pc2) 3 1 i (in64 pl) :: own (.slice sA i sc) 3 1 i (in64 sl) :: own (.slice gg.1 gg.2.1 gg.2.2.1) 5 1 gg.2.1 (by8 gg.2.2.2) :: blk gt t.cells 33 :: F) ?_ ?_
      · refine c_seq ?_
        refine c_perm f3 ?_
        refine c_sat drop0 ?_
        refine c_region ?_
        refine s1 (p_move rfl) rfl rfl rfl ?_
        refine s1 (p_len Tryz.underlying23 rfl) rfl rfl rfl ?_
        refine s1 (p_rem rfl rfl (by omega) (tm (by omega))) rfl rfl rfl ?_
        refine s1 (p_eq rfl rfl) rfl rfl rfl ?_
        refine s_nil ?_
        refine x_next ?_
        refine c_if rfl (fun h201 => ?_) (fun h201 => ?_)
        · refine c_region ?_
          refine s1 (p_move rfl) rfl rfl rfl ?_
          refine s_step (st_buildSlice (e := 5) (size := 1) rfl (fun w => bs23_1 _ w) rfl (by omega)) rfl rfl rfl ?_
          rintro _ _ ⟨g4, rfl, rfl⟩
          refine s_perm f3 ?_
          refine s_step (st_append (xs := by8 rl) Tryz.underlying23 inf5 rfl (by omega) rfl rfl (rd_own m1) (by simp [Value.oneCell']) ⟨by omega, by omega⟩) rfl rfl rfl ?_
          rintro _ _ ⟨A1, c1, rfl, rfl⟩
          refine s_perm f1 ?_
          refine s_sat drop0 ?_
          rw [by8_push]
          refine s1 (p_assign rfl) rfl rfl rfl ?_
          refine s_nil ?_
          exact x_cut ⟨A1, r + 1, c1, rl ++ [0]⟩ (⟨by simp [hrl], by first | omega | (dsimp only; omega), by first | omega | (dsimp only; omega)⟩) ⟨rfl, rfl, rfl, rfl, rfl, rfl, trivial⟩ ((((f3).trans f1).trans f3).trans f3)
        · refine c_skip ?_
          exact x_cut ⟨rA, r, rc, rl⟩ (⟨hrl, by first | omega | (dsimp only; omega), by first | omega | (dsimp only; omega)⟩) ⟨rfl, rfl, rfl, rfl, rfl, rfl, trivial⟩ ((((f3).trans f3).trans f3).trans f3)
      · rintro ⟨rA, r, rc, rl⟩ hI
        replace hI : rl.length = r ∧ 1 ≤ r ∧ r ≤ 30000001 := hI
        obtain ⟨hrl2, hr2, hr3⟩ := hI
        refine c_sub (L' := [(2, .slice PA 256 pc), (4, .pointer (some ⟨gt, 0, none⟩)), (9, .int .i64 (C : Int)), (21, .slice pA i pc2), (22, .slice sA i sc), (23, .slice rA r rc)]) ⟨rfl, rfl, rfl, rfl, rfl, rfl, trivial⟩ ?_
        refine c_perm (T := own (.slice pA i pc2) 3 1 i (in64 pl) :: own (.slice sA i sc) 3 1 i (in64 sl) :: own (.slice rA r rc) 5 1 r (by8 rl) :: blk gt t.cells 33 :: F) f0 ?_
        refine c_seq ?_
        refine c_region ?_
        refine s_step (st_buildSlice (e := 3) (size := 1) rfl (fun w => bs43_0 w) rfl (by omega)) rfl rfl rfl ?_
        rintro _ _ ⟨g6, rfl, rfl⟩
        refine s1 (p_assign rfl) rfl rfl rfl ?_
        refine s_nil ?_
        refine x_next ?_
        refine c_seq ?_
        refine c_seq ?_
        refine c_region ?_
        refine s1 (p_move rfl) rfl rfl rfl ?_
        refine s1 (p_move rfl) rfl rfl rfl ?_
        refine s_nil ?_
        refine x_next ?_
        refine c_block ?_
        refine c_loop (α := (Nat) × (Option Addr) × (Nat)) (fun gg => gg.1 ≤ C) (fun gg => C - gg.1) (fun gg => [(2, .slice PA 256 pc), (4, .pointer (some ⟨gt, 0, none⟩)), (9, .int .i64 (C : Int)), (21, .slice pA i pc2), (22, .slice sA i sc), (23, .slice rA r rc), (26, .slice gg.2.1 gg.1 gg.2.2), (206, .int .i64 (C : Int)), (207, .int .i64 (gg.1 : Int))]) (fun gg => own (.slice gg.2.1 gg.1 gg.2.2) 3 1 gg.1 (in64 (List.replicate gg.1 t.depth)) :: own (.slice pA i pc2) 3 1 i (in64 pl) :: own (.slice sA i sc) 3 1 i (in64 sl) :: own (.slice rA r rc) 5 1 r (by8 rl) :: blk gt t.cells 33 :: F) ⟨0, _, 0⟩ (Nat.zero_le _) ⟨rfl, rfl, rfl, rfl, rfl, rfl, rfl, rfl, rfl, trivial⟩ (((((f4).trans f4).trans f4).trans f4).trans f4) ?_
        rintro ⟨k, dA, dc⟩ hI
        replace hI : k ≤ C := hI
        have hk := hI
        refine c_sub (L' := [(2, .slice PA 256 pc), (4, .pointer (some ⟨gt, 0, none⟩)), (9, .int .i64 (C : Int)), (21, .slice pA i pc2), (22, .slice sA i sc), (23, .slice rA r rc), (26, .slice dA k dc), (206, .int .i64 (C : Int)), (207, .int .i64 (k : Int))]) ⟨rfl, rfl, rfl, rfl, rfl, rfl, rfl, rfl, rfl, trivial⟩ ?_
        refine c_perm (T := own (.slice dA k dc) 3 1 k (in64 (List.replicate k t.depth)) :: own (.slice pA i pc2) 3 1 i (in64 pl) :: own (.slice sA i sc) 3 1 i (in64 sl) :: own (.slice rA r rc) 5 1 r (by8 rl) :: blk gt t.cells 33 :: F) f0 ?_
        refine c_seq ?_
        refine c_region ?_
        refine s1 (p_lt rfl rfl) rfl rfl rfl ?_
        refine s_nil ?_
        refine x_next ?_
        refine c_seq ?_
        refine c_if rfl (fun h208 => ?_) (fun h208 => ?_)
        · refine c_skip ?_
          refine x_next ?_
          refine c_seq ?_
          refine c_block ?_
          refine c_region ?_
          refine s1 (p_move rfl) rfl rfl rfl ?_
          refine s1 (p_fieldAddr (fun w => fa33_5 _ w) rfl) rfl rfl rfl ?_
          refine s1 (p_load m4 Tryz.underlying3 rfl rfl rfl) rfl rfl rfl ?_
          refine s_step (st_buildSlice (e := 3) (size := 1) rfl (fun w => bs43_1 _ w) rfl (by omega)) rfl rfl rfl ?_
          rintro _ _ ⟨g5, rfl, rfl⟩
          refine s_perm f1 ?_
          refine s_step (st_append (xs := in64 (List.replicate k t.depth)) Tryz.underlying43 inf3 rfl (by omega) rfl rfl (rd_own m1) (by simp [Value.oneCell']) ⟨by omega, by omega⟩) rfl rfl rfl ?_
          rintro _ _ ⟨A1, c1, rfl, rfl⟩
          refine s_perm f1 ?_
          refine s_sat drop0 ?_
          rw [rep_snoc]
          refine s1 (p_assign rfl) rfl rfl rfl ?_
          refine s_nil ?_
          refine x_block ?_
          refine x_next ?_
          refine c_region ?_
          refine s1 (p_add rfl rfl (w64 (by omega))) rfl rfl rfl ?_
          refine s1 (p_move rfl) rfl rfl rfl ?_
          refine s_nil ?_
          exact x_loop ⟨k + 1, A1, c1⟩ (by first | omega | (dsimp only; omega)) (by first | omega | (dsimp only; omega)) ⟨rfl, rfl, rfl, rfl, rfl, rfl, rfl, rfl, rfl, trivial⟩ (((((f4).trans f4).trans f4).trans f4).trans f4)
        · refine c_exit ?_
          refine x_exit_then ?_
          refine x_exit_then ?_
          refine x_exit_here ?_
          refine x_next ?_
          refine c_seq ?_
          obtain rfl : C = k := by omega
          refine c_region ?_
          refine s1 (p_fieldAddr (fun w => fa33_1 _ w) rfl) rfl rfl rfl ?_
          refine s1 (p_load m4 Tryz.underlying3 rfl rfl rfl) rfl rfl rfl ?_
          refine s_step (st_buildSlice (e := 3) (size := 1) rfl (fun w => bs43_1 _ w) rfl (by omega)) rfl rfl rfl ?_
          rintro _ _ ⟨g11, rfl, rfl⟩
          refine s1 (p_build rfl (fun w => bd64 _ _ _ _ _ w)) rfl rfl rfl ?_
          refine s1 (p_fieldAddr (fun w => fa33_2 _ w) rfl) rfl rfl rfl ?_
          refine s1 (p_load m5 Tryz.underlying3 rfl rfl rfl) rfl rfl rfl ?_
          refine s_step (st_buildSlice (e := 3) (size := 1) rfl (fun w => bs43_1 _ w) rfl (by omega)) rfl rfl rfl ?_
          rintro _ _ ⟨g12, rfl, rfl⟩
          refine s1 (p_build rfl (fun w => bd64 _ _ _ _ _ w)) rfl rfl rfl ?_
          refine s1 (p_move rfl) rfl rfl rfl ?_
          refine s1 (p_build rfl (fun w => bd64 _ _ _ _ _ w)) rfl rfl rfl ?_
          refine s1 (p_fieldAddr (fun w => fa33_6 _ w) rfl) rfl rfl rfl ?_
          refine s1 (p_load m6 Tryz.underlying3 rfl rfl rfl) rfl rfl rfl ?_
          refine s_step (st_buildSlice (e := 3) (size := 1) rfl (fun w => bs43_1 _ w) rfl (by omega)) rfl rfl rfl ?_
          rintro _ _ ⟨g13, rfl, rfl⟩
          refine s1 (p_build rfl (fun w => bd64 _ _ _ _ _ w)) rfl rfl rfl ?_
          refine s1 (p_fieldAddr (fun w => fa33_3 _ w) rfl) rfl rfl rfl ?_
          refine s1 (p_load m7 Tryz.underlying3 rfl rfl rfl) rfl rfl rfl ?_
          refine s_step (st_buildSlice (e := 3) (size := 1) rfl (fun w => bs43_1 _ w) rfl (by omega)) rfl rfl rfl ?_
          rintro _ _ ⟨g14, rfl, rfl⟩
          refine s1 (p_build rfl (fun w => bd64 _ _ _ _ _ w)) rfl rfl rfl ?_
          refine s_step (st_buildSlice (e := 64) (size := 3) rfl (fun w => bs65_5 _ _ _ _ _ _ _ _ _ _ _ _ _ _ _ _ _ _ _ _ _ _ _ _ _ w) rfl (by omega)) rfl rfl rfl ?_
          rintro _ _ ⟨g15, rfl, rfl⟩
          refine s_perm f7 ?_
          refine s_perm f7 ?_
          refine s_perm f7 ?_
          refine s_perm f7 ?_
          refine s_perm f7 ?_
          refine s_perm f7 ?_
          refine s_perm f7 ?_
          refine s_perm f9 ?_
          refine s_perm f9 ?_
          refine s_perm f9 ?_
          refine s_perm (T := own _ 64 3 5 (([⟨256, 3, .slice (some ⟨g11, 0, none⟩) 1 1, [t.wide]⟩, ⟨257, 4, .slice (some ⟨g12, 0, none⟩) 1 1, [t.high]⟩, ⟨258, 3, .slice dA C dc, List.replicate C t.depth⟩, ⟨259, 3, .slice (some ⟨g13, 0, none⟩) 1 1, [t.packing]⟩, ⟨262, 3, .slice (some ⟨g14, 0, none⟩) 1 1, [t.colour]⟩] : List EV).flatMap EV.cells) :: _) f0 ?_
          refine s1 (p_assign rfl) rfl rfl rfl ?_
          refine s_nil ?_
          refine x_next ?_
          refine c_cut (α := (Option Addr) × (Nat) × (Nat) × (List EV) × (List As)) (fun gg => EInv F gg.2.2.2.2 (.slice pA i pc2) (.slice sA i sc) pl sl gg.2.2.2.1 gg.2.1 (E2 t pl) ∧ gg.2.1 ≤ 6) (fun gg => [(2, .slice PA 256 pc), (4, .pointer (some ⟨gt, 0, none⟩)), (9, .int .i64 (C : Int)), (21, .slice pA i pc2), (22, .slice sA i sc), (23, .slice rA r rc), (27, .slice gg.1 gg.2.1 gg.2.2.1)]) (fun gg => own (.slice gg.1 gg.2.1 gg.2.2.1) 64 3 gg.2.1 (gg.2.2.2.1.flatMap EV.cells) :: own (.slice rA r rc) 5 1 r (by8 rl) :: blk gt t.cells 33 :: gg.2.2.2.2) ?_ ?_
          · refine c_seq ?_
            refine c_region ?_
            refine s1 (p_fieldAddr (fun w => fa33_8 _ w) rfl) rfl rfl rfl ?_
            refine s1 (p_load m2 Tryz.underlying3 rfl rfl rfl) rfl rfl rfl ?_
            refine s1 (p_eq rfl rfl) rfl rfl rfl ?_
            refine s_nil ?_
            refine x_next ?_
            refine c_if rfl (fun h236 => ?_) (fun h236 => ?_)
            · refine c_region ?_
              refine s1 (p_move rfl) rfl rfl rfl ?_
              refine s1 (p_move rfl) rfl rfl rfl ?_
              refine s1 (p_build rfl (fun w => bd64 _ _ _ _ _ w)) rfl rfl rfl ?_
              refine s_step (st_buildSlice (e := 64) (size := 3) rfl (fun w => bs65_1 _ _ _ _ _  w) rfl (by omega)) rfl rfl rfl ?_
              rintro _ _ ⟨g16, rfl, rfl⟩
              refine s_perm f1 ?_
              refine s_step (st_append (xs := _) Tryz.underlying65 inf64 rfl (by omega) rfl rfl (rd_own m1) (by simp [Value.oneCell']) ⟨by omega, by omega⟩) rfl rfl rfl ?_
              rintro _ _ ⟨A2, c3, rfl, rfl⟩
              refine s_perm f1 ?_
              refine s_sat drop0 ?_
              refine s_perm f9 ?_
              refine s_perm f9 ?_
              refine s_perm f9 ?_
              refine s_perm f9 ?_
              refine s_perm f9 ?_
              refine s_perm f9 ?_
              refine s_perm f9 ?_
              refine s_perm f9 ?_
              refine s_perm f9 ?_
              refine s_perm f9 ?_
              rw [ev_snoc _ 273 4 (.slice pA i pc2) pl]
              refine s1 (p_assign rfl) rfl rfl rfl ?_
              refine s_nil ?_
              exact x_cut ⟨A2, 6, c3, [⟨256, 3, .slice (some ⟨g11, 0, none⟩) 1 1, [t.wide]⟩, ⟨257, 4, .slice (some ⟨g12, 0, none⟩) 1 1, [t.high]⟩, ⟨258, 3, .slice dA C dc, List.replicate C t.depth⟩, ⟨259, 3, .slice (some ⟨g13, 0, none⟩) 1 1, [t.packing]⟩, ⟨262, 3, .slice (some ⟨g14, 0, none⟩) 1 1, [t.colour]⟩] ++ [⟨273, 4, .slice pA i pc2, pl⟩], (own (.slice (some ⟨g14, 0, none⟩) 1 1) 3 1 1 (in64 [t.colour]) :: own (.slice (some ⟨g13, 0, none⟩) 1 1) 3 1 1 (in64 [t.packing]) :: own (.slice (some ⟨g12, 0, none⟩) 1 1) 3 1 1 (in64 [t.high]) :: own (.slice (some ⟨g11, 0, none⟩) 1 1) 3 1 1 (in64 [t.wide]) :: own (.slice dA C dc) 3 1 C (in64 (List.replicate C t.depth)) :: own (.slice pA i pc2) 3 1 i (in64 pl) :: own (.slice sA i sc) 3 1 i (in64 sl) :: F)⟩ (⟨(EInv.eq (EInv.old (EInv.first hC hpl hsl) 273 4 (by rw [hpl]; exact rd_own m5)) (by unfold E2; rw [if_pos h236])), by first | omega | (dsimp only; omega)⟩) ⟨rfl, rfl, rfl, rfl, rfl, rfl, rfl, trivial⟩ (((f2).trans f2).trans f2)
            · refine c_skip ?_
              exact x_cut ⟨some ⟨g15, 0, none⟩, 5, 5, [⟨256, 3, .slice (some ⟨g11, 0, none⟩) 1 1, [t.wide]⟩, ⟨257, 4, .slice (some ⟨g12, 0, none⟩) 1 1, [t.high]⟩, ⟨258, 3, .slice dA C dc, List.replicate C t.depth⟩, ⟨259, 3, .slice (some ⟨g13, 0, none⟩) 1 1, [t.packing]⟩, ⟨262, 3, .slice (some ⟨g14, 0, none⟩) 1 1, [t.colour]⟩], (own (.slice (some ⟨g14, 0, none⟩) 1 1) 3 1 1 (in64 [t.colour]) :: own (.slice (some ⟨g13, 0, none⟩) 1 1) 3 1 1 (in64 [t.packing]) :: own (.slice (some ⟨g12, 0, none⟩) 1 1) 3 1 1 (in64 [t.high]) :: own (.slice (some ⟨g11, 0, none⟩) 1 1) 3 1 1 (in64 [t.wide]) :: own (.slice dA C dc) 3 1 C (in64 (List.replicate C t.depth)) :: own (.slice pA i pc2) 3 1 i (in64 pl) :: own (.slice sA i sc) 3 1 i (in64 sl) :: F)⟩ (⟨(EInv.eq (EInv.first hC hpl hsl) (by unfold E2; rw [if_neg h236, List.append_nil])), by first | omega | (dsimp only; omega)⟩) ⟨rfl, rfl, rfl, rfl, rfl, rfl, rfl, trivial⟩ (((f2).trans f2).trans f2)
          · rintro ⟨A, n, c2, es, G⟩ hI
            replace hI : EInv F G (.slice pA i pc2) (.slice sA i sc) pl sl es n (E2 t pl) ∧ n ≤ 6 := hI
            obtain ⟨hE, hn⟩ := hI
            refine c_sub (L' := [(2, .slice PA 256 pc), (4, .pointer (some ⟨gt, 0, none⟩)), (9, .int .i64 (C : Int)), (21, .slice pA i pc2), (22, .slice sA i sc), (23, .slice rA r rc), (27, .slice A n c2)]) ⟨rfl, rfl, rfl, rfl, rfl, rfl, rfl, trivial⟩ ?_
            refine c_perm (T := own (.slice A n c2) 64 3 n (es.flatMap EV.cells) :: own (.slice rA r rc) 5 1 r (by8 rl) :: blk gt t.cells 33 :: G) f0 ?_
            refine c_seq ?_
            refine c_region ?_
            refine s1 (p_move rfl) rfl rfl rfl ?_
            refine s1 (p_move rfl) rfl rfl rfl ?_
            refine s_step (st_buildSlice (e := 3) (size := 1) rfl (fun w => bs43_1 _ w) rfl (by omega)) rfl rfl rfl ?_
            rintro _ _ ⟨g17, rfl, rfl⟩
            refine s1 (p_build rfl (fun w => bd64 _ _ _ _ _ w)) rfl rfl rfl ?_
            refine s_step (st_buildSlice (e := 64) (size := 3) rfl (fun w => bs65_1 _ _ _ _ _  w) rfl (by omega)) rfl rfl rfl ?_
            rintro _ _ ⟨g18, rfl, rfl⟩
            refine s_perm f2 ?_
            refine s_step (st_append (xs := es.flatMap EV.cells) Tryz.underlying65 inf64 rfl (by omega) rfl rfl (rd_own m1) (by simp [Value.oneCell']) ⟨by omega, by omega⟩) rfl rfl rfl ?_
            rintro _ _ ⟨A2, c3, rfl, rfl⟩
            refine s_perm f1 ?_
            refine s_sat drop0 ?_
            refine s_perm f1 ?_
            refine s_perm f3 ?_
            refine s_perm f3 ?_
            refine s_perm f3 ?_
            rw [ev_snoc es 277 3 (.slice (some ⟨g17, 0, none⟩) 1 1) [(C : Int)]]
            have hE3 := EInv.eq (hE.snoc (v := .slice (some ⟨g17, 0, none⟩) 1 1) (nums := [(C : Int)]) (k := 1) 277 3 rfl) (show _ = E3 t pl by unfold E3; rw [hC])
            clear hE
            obtain ⟨es3, hes3⟩ : ∃ x, x = es ++ [(⟨277, 3, .slice (some ⟨g17, 0, none⟩) 1 1, [(C : Int)]⟩ : EV)] := ⟨_, rfl⟩
            rw [← hes3] at hE3 ⊢
            obtain ⟨G3, hG3⟩ : ∃ x, x = own (.slice (some ⟨g17, 0, none⟩) 1 1) 3 1 1 (in64 [(C : Int)]) :: G := ⟨_, rfl⟩
            rw [← hG3] at hE3
            refine s_perm (T := own (.slice A2 (n + 1) c3) 64 3 (n + 1) (es3.flatMap EV.cells) :: own (.slice rA r rc) 5 1 r (by8 rl) :: blk gt t.cells 33 :: G3) (by rw [hG3]; exact f0) ?_
            refine s1 (p_assign rfl) rfl rfl rfl ?_
            refine s_nil ?_
            refine x_next ?_
            refine c_cut (α := (Option Addr) × (Nat) × (Nat) × (List EV) × (List As)) (fun gg => EInv F gg.2.2.2.2 (.slice pA i pc2) (.slice sA i sc) pl sl gg.2.2.2.1 gg.2.1 (E4 t pl sl) ∧ gg.2.1 ≤ 9) (fun gg => [(2, .slice PA 256 pc), (4, .pointer (some ⟨gt, 0, none⟩)), (9, .int .i64 (C : Int)), (21, .slice pA i pc2), (22, .slice sA i sc), (23, .slice rA r rc), (27, .slice gg.1 gg.2.1 gg.2.2.1)]) (fun gg => own (.slice gg.1 gg.2.1 gg.2.2.1) 64 3 gg.2.1 (gg.2.2.2.1.flatMap EV.cells) :: own (.slice rA r rc) 5 1 r (by8 rl) :: blk gt t.cells 33 :: gg.2.2.2.2) ?_ ?_
            · refine c_seq ?_
              refine c_region ?_
              refine s1 (p_fieldAddr (fun w => fa33_8 _ w) rfl) rfl rfl rfl ?_
              refine s1 (p_load m2 Tryz.underlying3 rfl rfl rfl) rfl rfl rfl ?_
              refine s1 (p_eq rfl rfl) rfl rfl rfl ?_
              refine s_nil ?_
              refine x_next ?_
              refine c_if rfl (fun h250 => ?_) (fun h250 => ?_)
              · refine c_region ?_
                refine s1 (p_move rfl) rfl rfl rfl ?_
                refine s1 (p_fieldAddr (fun w => fa33_10 _ w) rfl) rfl rfl rfl ?_
                refine s1 (p_load m2 Tryz.underlying3 rfl rfl rfl) rfl rfl rfl ?_
                refine s_step (st_buildSlice (e := 3) (size := 1) rfl (fun w => bs43_1 _ w) rfl (by omega)) rfl rfl rfl ?_
                rintro _ _ ⟨g19, rfl, rfl⟩
                refine s1 (p_build rfl (fun w => bd64 _ _ _ _ _ w)) rfl rfl rfl ?_
                refine s1 (p_move rfl) rfl rfl rfl ?_
                refine s1 (p_build rfl (fun w => bd64 _ _ _ _ _ w)) rfl rfl rfl ?_
                refine s_step (st_buildSlice (e := 64) (size := 3) rfl (fun w => bs65_2 _ _ _ _ _ _ _ _ _ _  w) rfl (by omega)) rfl rfl rfl ?_
                rintro _ _ ⟨g20, rfl, rfl⟩
                refine s_perm f2 ?_
                refine s_step (st_append (xs := es3.flatMap EV.cells) Tryz.underlying65 inf64 rfl (by omega) rfl rfl (rd_own m1) (by simp [Value.oneCell']) ⟨by omega, by omega⟩) rfl rfl rfl ?_
                rintro _ _ ⟨A2, c3, rfl, rfl⟩
                refine s_perm f1 ?_
                refine s_sat drop0 ?_
                refine s_perm f1 ?_
                refine s_perm f3 ?_
                refine s_perm f3 ?_
                refine s_perm f3 ?_
                rw [ev_snoc2 es3 278 4 (.slice (some ⟨g19, 0, none⟩) 1 1) [t.rows] 279 4 (.slice sA i sc) sl]
                refine s1 (p_assign rfl) rfl rfl rfl ?_
                refine s_nil ?_
                exact x_cut ⟨_, _, _, _, _⟩ (⟨(EInv.eq (EInv.old (hE3.snoc (v := .slice (some ⟨g19, 0, none⟩) 1 1) (nums := [t.rows]) (k := 1) 278 4 rfl) 279 4 (by rw [hsl]; exact fun w h => hsl ▸ hE3.sz w h.tail)) (by unfold E4; rw [if_pos h250, List.append_assoc]; rfl)), by first | omega | (dsimp only; omega)⟩) ⟨rfl, rfl, rfl, rfl, rfl, rfl, rfl, trivial⟩ (((f2).trans f2).trans f2)
              · refine c_skip ?_
                exact x_cut ⟨_, _, _, es3, G3⟩ (⟨(EInv.eq hE3 (by unfold E4; rw [if_neg h250, List.append_nil])), by first | omega | (dsimp only; omega)⟩) ⟨rfl, rfl, rfl, rfl, rfl, rfl, rfl, trivial⟩ (((f2).trans f2).trans f2)
            · rintro ⟨A, n, c2, es, G⟩ hI
              replace hI : EInv F G (.slice pA i pc2) (.slice sA i sc) pl sl es n (E4 t pl sl) ∧ n ≤ 9 := hI
              obtain ⟨hE, hn⟩ := hI
              refine c_sub (L' := [(2, .slice PA 256 pc), (4, .pointer (some ⟨gt, 0, none⟩)), (9, .int .i64 (C : Int)), (21, .slice pA i pc2), (22, .slice sA i sc), (23, .slice rA r rc), (27, .slice A n c2)]) ⟨rfl, rfl, rfl, rfl, rfl, rfl, rfl, trivial⟩ ?_
              refine c_perm (T := own (.slice A n c2) 64 3 n (es.flatMap EV.cells) :: own (.slice rA r rc) 5 1 r (by8 rl) :: blk gt t.cells 33 :: G) f0 ?_
              refine c_cut (α := (Option Addr) × (Nat) × (Nat) × (List EV) × (List As)) (fun gg => EInv F gg.2.2.2.2 (.slice pA i pc2) (.slice sA i sc) pl sl gg.2.2.2.1 gg.2.1 (E5 t pl sl) ∧ gg.2.1 ≤ 10) (fun gg => [(2, .slice PA 256 pc), (4, .pointer (some ⟨gt, 0, none⟩)), (9, .int .i64 (C : Int)), (21, .slice pA i pc2), (22, .slice sA i sc), (23, .slice rA r rc), (27, .slice gg.1 gg.2.1 gg.2.2.1)]) (fun gg => own (.slice gg.1 gg.2.1 gg.2.2.1) 64 3 gg.2.1 (gg.2.2.2.1.flatMap EV.cells) :: own (.slice rA r rc) 5 1 r (by8 rl) :: blk gt t.cells 33 :: gg.2.2.2.2) ?_ ?_
              · refine c_seq ?_
                refine c_region ?_
                refine s1 (p_fieldAddr (fun w => fa33_7 _ w) rfl) rfl rfl rfl ?_
                refine s1 (p_load m2 Tryz.underlying4 rfl rfl rfl) rfl rfl rfl ?_
                refine s_nil ?_
                refine x_next ?_
                refine c_ifb rfl (fun h261 => ?_) (fun h261 => ?_)
                · refine c_region ?_
                  refine s1 (p_move rfl) rfl rfl rfl ?_
                  refine s_step (st_buildSlice (e := 3) (size := 1) rfl (fun w => bs43_1 _ w) rfl (by omega)) rfl rfl rfl ?_
                  rintro _ _ ⟨g21, rfl, rfl⟩
                  refine s1 (p_build rfl (fun w => bd64 _ _ _ _ _ w)) rfl rfl rfl ?_
                  refine s_step (st_buildSlice (e := 64) (size := 3) rfl (fun w => bs65_1 _ _ _ _ _  w) rfl (by omega)) rfl rfl rfl ?_
                  rintro _ _ ⟨g22, rfl, rfl⟩
                  refine s_perm f2 ?_
                  refine s_step (st_append (xs := es.flatMap EV.cells) Tryz.underlying65 inf64 rfl (by omega) rfl rfl (rd_own m1) (by simp [Value.oneCell']) ⟨by omega, by omega⟩) rfl rfl rfl ?_
                  rintro _ _ ⟨A2, c3, rfl, rfl⟩
                  refine s_perm f1 ?_
                  refine s_sat drop0 ?_
                  refine s_perm f1 ?_
                  refine s_perm f3 ?_
                  refine s_perm f3 ?_
                  refine s_perm f3 ?_
                  rw [ev_snoc es 317 3 (.slice (some ⟨g21, 0, none⟩) 1 1) [2]]
                  refine s1 (p_assign rfl) rfl rfl rfl ?_
                  refine s_nil ?_
                  exact x_cut ⟨_, _, _, _, _⟩ (⟨(EInv.eq (hE.snoc (v := .slice (some ⟨g21, 0, none⟩) 1 1) (nums := [2]) (k := 1) 317 3 rfl) (by unfold E5; rw [if_pos h261])), by first | omega | (dsimp only; omega)⟩) ⟨rfl, rfl, rfl, rfl, rfl, rfl, rfl, trivial⟩ (((f2).trans f2).trans f2)
                · refine c_skip ?_
                  exact x_cut ⟨A, n, c2, es, G⟩ (⟨(EInv.eq hE (by unfold E5; rw [if_neg (show ¬ t.ahead = true by rw [h261]; simp), List.append_nil])), by first | omega | (dsimp only; omega)⟩) ⟨rfl, rfl, rfl, rfl, rfl, rfl, rfl, trivial⟩ (((f2).trans f2).trans f2)
              · rintro ⟨A, n, c2, es, G⟩ hI
                replace hI : EInv F G (.slice pA i pc2) (.slice sA i sc) pl sl es n (E5 t pl sl) ∧ n ≤ 10 := hI
                obtain ⟨hE, hn⟩ := hI
                refine c_sub (L' := [(2, .slice PA 256 pc), (4, .pointer (some ⟨gt, 0, none⟩)), (9, .int .i64 (C : Int)), (21, .slice pA i pc2), (22, .slice sA i sc), (23, .slice rA r rc), (27, .slice A n c2)]) ⟨rfl, rfl, rfl, rfl, rfl, rfl, rfl, trivial⟩ ?_
                refine c_perm (T := own (.slice A n c2) 64 3 n (es.flatMap EV.cells) :: own (.slice rA r rc) 5 1 r (by8 rl) :: blk gt t.cells 33 :: G) f0 ?_
                refine c_cut (α := (Option Addr) × (Nat) × (Nat) × (List EV) × (List As)) (fun gg => EInv F gg.2.2.2.2 (.slice pA i pc2) (.slice sA i sc) pl sl gg.2.2.2.1 gg.2.1 (E6 t pal pl sl) ∧ gg.2.1 ≤ 11) (fun gg => [(2, .slice PA 256 pc), (4, .pointer (some ⟨gt, 0, none⟩)), (9, .int .i64 (C : Int)), (21, .slice pA i pc2), (22, .slice sA i sc), (23, .slice rA r rc), (27, .slice gg.1 gg.2.1 gg.2.2.1)]) (fun gg => own (.slice gg.1 gg.2.1 gg.2.2.1) 64 3 gg.2.1 (gg.2.2.2.1.flatMap EV.cells) :: own (.slice rA r rc) 5 1 r (by8 rl) :: blk gt t.cells 33 :: gg.2.2.2.2) ?_ ?_
                · refine c_seq ?_
                  refine c_region ?_
                  refine s1 (p_fieldAddr (fun w => fa33_3 _ w) rfl) rfl rfl rfl ?_
                  refine s1 (p_load m2 Tryz.underlying3 rfl rfl rfl) rfl rfl rfl ?_
                  refine s1 (p_eq rfl rfl) rfl rfl rfl ?_
                  refine s_nil ?_
                  refine x_next ?_
                  refine c_if rfl (fun h269 => ?_) (fun h269 => ?_)
                  · refine c_region ?_
                    refine s1 (p_move rfl) rfl rfl rfl ?_
                    refine s1 (p_move rfl) rfl rfl rfl ?_
                    refine s1 (p_fieldAddr (fun w => fa33_5 _ w) rfl) rfl rfl rfl ?_
                    refine s1 (pv (p_load m2 Tryz.underlying3 rfl rfl rfl) (congrArg (Value.int .i64) (hok.d3 h269))) rfl rfl rfl ?_
                    refine s_step (st_call Tryz.func23 nm23 bo23 rfl (colors_spec PA pc pal hpal (fun w h => hrp w (hE.sat w h.tail.tail.tail)))) rfl rfl rfl ?_
                    rintro _ _ ⟨kA, kc, rfl, rfl⟩
                    refine s1 (p_build rfl (fun w => bd64 _ _ _ _ _ w)) rfl rfl rfl ?_
                    refine s_step (st_buildSlice (e := 64) (size := 3) rfl (fun w => bs65_1 _ _ _ _ _  w) rfl (by omega)) rfl rfl rfl ?_
                    rintro _ _ ⟨g23, rfl, rfl⟩
                    refine s_perm f2 ?_
                    refine s_step (st_append (xs := es.flatMap EV.cells) Tryz.underlying65 inf64 rfl (by omega) rfl rfl (rd_own m1) (by simp [Value.oneCell']) ⟨by omega, by omega⟩) rfl rfl rfl ?_
                    rintro _ _ ⟨A2, c3, rfl, rfl⟩
                    refine s_perm f1 ?_
                    refine s_sat drop0 ?_
                    refine s_perm f1 ?_
                    refine s_perm f3 ?_
                    refine s_perm f3 ?_
                    refine s_perm f3 ?_
                    rw [ev_snoc es 320 3 (.slice kA 768 kc) (colorsL pal)]
                    refine s1 (p_assign rfl) rfl rfl rfl ?_
                    refine s_nil ?_
                    exact x_cut ⟨_, _, _, _, _⟩ (⟨(EInv.eq (hE.snoc (v := .slice kA 768 kc) (nums := colorsL pal) (k := 768) 320 3 (colorsL_length hpal)) (by unfold E6; rw [if_pos h269])), by first | omega | (dsimp only; omega)⟩) ⟨rfl, rfl, rfl, rfl, rfl, rfl, rfl, trivial⟩ (((f2).trans f2).trans f2)
                  · refine c_skip ?_
                    exact x_cut ⟨A, n, c2, es, G⟩ (⟨(EInv.eq hE (by unfold E6; rw [if_neg h269, List.append_nil])), by first | omega | (dsimp only; omega)⟩) ⟨rfl, rfl, rfl, rfl, rfl, rfl, rfl, trivial⟩ (((f2).trans f2).trans f2)
                · rintro ⟨A, n, c2, es, G⟩ hI
                  replace hI : EInv F G (.slice pA i pc2) (.slice sA i sc) pl sl es n (E6 t pal pl sl) ∧ n ≤ 11 := hI
                  obtain ⟨hE, hn⟩ := hI
                  refine c_sub (L' := [(2, .slice PA 256 pc), (4, .pointer (some ⟨gt, 0, none⟩)), (9, .int .i64 (C : Int)), (21, .slice pA i pc2), (22, .slice sA i sc), (23, .slice rA r rc), (27, .slice A n c2)]) ⟨rfl, rfl, rfl, rfl, rfl, rfl, rfl, trivial⟩ ?_
                  refine c_perm (T := own (.slice A n c2) 64 3 n (es.flatMap EV.cells) :: own (.slice rA r rc) 5 1 r (by8 rl) :: blk gt t.cells 33 :: G) f0 ?_
                  refine c_cut (α := (Option Addr) × (Nat) × (Nat) × (List EV) × (List As)) (fun gg => EInv F gg.2.2.2.2 (.slice pA i pc2) (.slice sA i sc) pl sl gg.2.2.2.1 gg.2.1 (E7 t pal pl sl) ∧ gg.2.1 ≤ 15) (fun gg => [(2, .slice PA 256 pc), (4, .pointer (some ⟨gt, 0, none⟩)), (9, .int .i64 (C : Int)), (21, .slice pA i pc2), (22, .slice sA i sc), (23, .slice rA r rc), (27, .slice gg.1 gg.2.1 gg.2.2.1)]) (fun gg => own (.slice gg.1 gg.2.1 gg.2.2.1) 64 3 gg.2.1 (gg.2.2.2.1.flatMap EV.cells) :: own (.slice rA r rc) 5 1 r (by8 rl) :: blk gt t.cells 33 :: gg.2.2.2.2) ?_ ?_
                  · refine c_seq ?_
                    refine c_region ?_
                    refine s1 (p_fieldAddr (fun w => fa33_8 _ w) rfl) rfl rfl rfl ?_
                    refine s1 (p_load m2 Tryz.underlying3 rfl rfl rfl) rfl rfl rfl ?_
                    refine s1 (p_gt rfl rfl) rfl rfl rfl ?_
                    refine s_nil ?_
                    refine x_next ?_
                    refine c_if rfl (fun h280 => ?_) (fun h280 => ?_)
                    · refine c_region ?_
                      refine s1 (p_move rfl) rfl rfl rfl ?_
                      refine s1 (p_fieldAddr (fun w => fa33_8 _ w) rfl) rfl rfl rfl ?_
                      refine s1 (p_load m2 Tryz.underlying3 rfl rfl rfl) rfl rfl rfl ?_
                      refine s_step (st_buildSlice (e := 3) (size := 1) rfl (fun w => bs43_1 _ w) rfl (by omega)) rfl rfl rfl ?_
                      rintro _ _ ⟨g24, rfl, rfl⟩
                      refine s1 (p_build rfl (fun w => bd64 _ _ _ _ _ w)) rfl rfl rfl ?_
                      refine s1 (p_fieldAddr (fun w => fa33_9 _ w) rfl) rfl rfl rfl ?_
                      refine s1 (p_load m3 Tryz.underlying3 rfl rfl rfl) rfl rfl rfl ?_
                      refine s_step (st_buildSlice (e := 3) (size := 1) rfl (fun w => bs43_1 _ w) rfl (by omega)) rfl rfl rfl ?_
                      rintro _ _ ⟨g25, rfl, rfl⟩
                      refine s1 (p_build rfl (fun w => bd64 _ _ _ _ _ w)) rfl rfl rfl ?_
                      refine s1 (p_move rfl) rfl rfl rfl ?_
                      refine s1 (p_build rfl (fun w => bd64 _ _ _ _ _ w)) rfl rfl rfl ?_
                      refine s1 (p_move rfl) rfl rfl rfl ?_
                      refine s1 (p_build rfl (fun w => bd64 _ _ _ _ _ w)) rfl rfl rfl ?_
                      refine s_step (st_buildSlice (e := 64) (size := 3) rfl (fun w => bs65_4 _ _ _ _ _ _ _ _ _ _ _ _ _ _ _ _ _ _ _ _  w) rfl (by omega)) rfl rfl rfl ?_
                      rintro _ _ ⟨g26, rfl, rfl⟩
                      refine s_perm f3 ?_
                      refine s_step (st_append (xs := es.flatMap EV.cells) Tryz.underlying65 inf64 rfl (by omega) rfl rfl (rd_own m1) (by simp [Value.oneCell']) ⟨by omega, by omega⟩) rfl rfl rfl ?_
                      rintro _ _ ⟨A2, c3, rfl, rfl⟩
                      refine s_perm f1 ?_
                      refine s_sat drop0 ?_
                      refine s_perm f2 ?_
                      refine s_perm f2 ?_
                      refine s_perm f4 ?_
                      refine s_perm f4 ?_
                      refine s_perm f4 ?_
                      rw [ev_snoc4 es 322 3 (.slice (some ⟨g24, 0, none⟩) 1 1) [t.tileW] 323 3 (.slice (some ⟨g25, 0, none⟩) 1 1) [t.tileH] 324 4 (.slice pA i pc2) pl 325 4 (.slice sA i sc) sl]
                      refine s1 (p_assign rfl) rfl rfl rfl ?_
                      refine s_nil ?_
                      exact x_cut ⟨_, _, _, _, _⟩ (⟨(EInv.eq (EInv.old (EInv.old (EInv.snoc (hE.snoc (v := .slice (some ⟨g24, 0, none⟩) 1 1) (nums := [t.tileW]) (k := 1) 322 3 rfl) (v := .slice (some ⟨g25, 0, none⟩) 1 1) (nums := [t.tileH]) (k := 1) 323 3 rfl) 324 4 (by rw [hpl]; exact fun w h => hpl ▸ hE.pl w h.tail.tail)) 325 4 (by rw [hsl]; exact fun w h => hsl ▸ hE.sz w h.tail.tail)) (by unfold E7; rw [if_pos h280]; simp only [List.append_assoc]; rfl)), by first | omega | (dsimp only; omega)⟩) ⟨rfl, rfl, rfl, rfl, rfl, rfl, rfl, trivial⟩ (((f2).trans f2).trans f2)
                    · refine c_skip ?_
                      exact x_cut ⟨A, n, c2, es, G⟩ (⟨(EInv.eq hE (by unfold E7; rw [if_neg h280, List.append_nil])), by first | omega | (dsimp only; omega)⟩) ⟨rfl, rfl, rfl, rfl, rfl, rfl, rfl, trivial⟩ (((f2).trans f2).trans f2)
                  · rintro ⟨A, n, c2, es, G⟩ hI
                    replace hI : EInv F G (.slice pA i pc2) (.slice sA i sc) pl sl es n (E7 t pal pl sl) ∧ n ≤ 15 := hI
                    obtain ⟨hE, hn⟩ := hI
                    refine c_sub (L' := [(2, .slice PA 256 pc), (4, .pointer (some ⟨gt, 0, none⟩)), (9, .int .i64 (C : Int)), (21, .slice pA i pc2), (22, .slice sA i sc), (23, .slice rA r rc), (27, .slice A n c2)]) ⟨rfl, rfl, rfl, rfl, rfl, rfl, rfl, trivial⟩ ?_
                    refine c_perm (T := own (.slice A n c2) 64 3 n (es.flatMap EV.cells) :: own (.slice rA r rc) 5 1 r (by8 rl) :: blk gt t.cells 33 :: G) f0 ?_
                    refine c_cut (α := (Option Addr) × (Nat) × (Nat) × (List EV) × (List As)) (fun gg => EInv F gg.2.2.2.2 (.slice pA i pc2) (.slice sA i sc) pl sl gg.2.2.2.1 gg.2.1 (E8 t pal pl sl) ∧ gg.2.1 ≤ 16) (fun gg => [(2, .slice PA 256 pc), (4, .pointer (some ⟨gt, 0, none⟩)), (9, .int .i64 (C : Int)), (21, .slice pA i pc2), (22, .slice sA i sc), (23, .slice rA r rc), (27, .slice gg.1 gg.2.1 gg.2.2.1)]) (fun gg => own (.slice gg.1 gg.2.1 gg.2.2.1) 64 3 gg.2.1 (gg.2.2.2.1.flatMap EV.cells) :: own (.slice rA r rc) 5 1 r (by8 rl) :: blk gt t.cells 33 :: gg.2.2.2.2) ?_ ?_
                    · refine c_seq ?_
                      rcases three (t.colour = 2) (t.alpha > 0) with hq | hq | hq
                      · refine c_region ?_
                        refine s1 (p_fieldAddr (fun w => fa33_3 _ w) rfl) rfl rfl rfl ?_
                        refine s1 (p_load m2 Tryz.underlying3 rfl rfl rfl) rfl rfl rfl ?_
                        refine s1 (pb_false (p_eq rfl rfl) hq) rfl rfl rfl ?_
                        refine s1 (p_move rfl) rfl rfl rfl ?_
                        refine s_skip rfl rfl rfl rfl rfl ?_
                        refine s_skip rfl rfl rfl rfl rfl ?_
                        refine s_skip rfl rfl rfl rfl rfl ?_
                        refine s1 (p_pickF rfl rfl) rfl rfl rfl ?_
                        refine s_nil ?_
                        refine x_next ?_
                        refine c_false rfl ?_
                        refine c_skip ?_
                        exact x_cut ⟨A, n, c2, es, G⟩ (⟨(EInv.eq hE (by unfold E8; rw [if_neg (fun h => hq h.1), List.append_nil])), by first | omega | (dsimp only; omega)⟩) ⟨rfl, rfl, rfl, rfl, rfl, rfl, rfl, trivial⟩ (((f2).trans f2).trans f2)
                      · refine c_region ?_
                        refine s1 (p_fieldAddr (fun w => fa33_3 _ w) rfl) rfl rfl rfl ?_
                        refine s1 (p_load m2 Tryz.underlying3 rfl rfl rfl) rfl rfl rfl ?_
                        refine s1 (pb_true (p_eq rfl rfl) hq.1) rfl rfl rfl ?_
                        refine s1 (p_move rfl) rfl rfl rfl ?_
                        refine sg1 (p_fieldAddr (fun w => fa33_4 _ w) rfl) rfl rfl rfl rfl ?_
                        refine sg1 (p_load m2 Tryz.underlying3 rfl rfl rfl) rfl rfl rfl rfl ?_
                        refine sg1 (pb_false (p_gt rfl rfl) hq.2) rfl rfl rfl rfl ?_
                        refine s1 (p_pickT rfl rfl) rfl rfl rfl ?_
                        refine s_nil ?_
                        refine x_next ?_
                        refine c_false rfl ?_
                        refine c_skip ?_
                        exact x_cut ⟨A, n, c2, es, G⟩ (⟨(EInv.eq hE (by unfold E8; rw [if_neg (fun h => hq.2 h.2), List.append_nil])), by first | omega | (dsimp only; omega)⟩) ⟨rfl, rfl, rfl, rfl, rfl, rfl, rfl, trivial⟩ (((f2).trans f2).trans f2)
                      · refine c_region ?_
                        refine s1 (p_fieldAddr (fun w => fa33_3 _ w) rfl) rfl rfl rfl ?_
                        refine s1 (p_load m2 Tryz.underlying3 rfl rfl rfl) rfl rfl rfl ?_
                        refine s1 (pb_true (p_eq rfl rfl) hq.1) rfl rfl rfl ?_
                        refine s1 (p_move rfl) rfl rfl rfl ?_
                        refine sg1 (p_fieldAddr (fun w => fa33_4 _ w) rfl) rfl rfl rfl rfl ?_
                        refine sg1 (p_load m2 Tryz.underlying3 rfl rfl rfl) rfl rfl rfl rfl ?_
                        refine sg1 (pb_true (p_gt rfl rfl) hq.2) rfl rfl rfl rfl ?_
                        refine s1 (p_pickT rfl rfl) rfl rfl rfl ?_
                        refine s_nil ?_
                        refine x_next ?_
                        refine c_true rfl ?_
                        refine c_region ?_
                        refine s1 (p_move rfl) rfl rfl rfl ?_
                        refine s1 (p_fieldAddr (fun w => fa33_4 _ w) rfl) rfl rfl rfl ?_
                        refine s1 (p_load m2 Tryz.underlying3 rfl rfl rfl) rfl rfl rfl ?_
                        refine s_step (st_buildSlice (e := 3) (size := 1) rfl (fun w => bs43_1 _ w) rfl (by omega)) rfl rfl rfl ?_
                        rintro _ _ ⟨g27, rfl, rfl⟩
                        refine s1 (p_build rfl (fun w => bd64 _ _ _ _ _ w)) rfl rfl rfl ?_
                        refine s_step (st_buildSlice (e := 64) (size := 3) rfl (fun w => bs65_1 _ _ _ _ _  w) rfl (by omega)) rfl rfl rfl ?_
                        rintro _ _ ⟨g28, rfl, rfl⟩
                        refine s_perm f2 ?_
                        refine s_step (st_append (xs := es.flatMap EV.cells) Tryz.underlying65 inf64 rfl (by omega) rfl rfl (rd_own m1) (by simp [Value.oneCell']) ⟨by omega, by omega⟩) rfl rfl rfl ?_
                        rintro _ _ ⟨A2, c3, rfl, rfl⟩
                        refine s_perm f1 ?_
                        refine s_sat drop0 ?_
                        refine s_perm f1 ?_
                        refine s_perm f3 ?_
                        refine s_perm f3 ?_
                        refine s_perm f3 ?_
                        rw [ev_snoc es 338 3 (.slice (some ⟨g27, 0, none⟩) 1 1) [t.alpha]]
                        refine s1 (p_assign rfl) rfl rfl rfl ?_
                        refine s_nil ?_
                        exact x_cut ⟨_, _, _, _, _⟩ (⟨(EInv.eq (hE.snoc (v := .slice (some ⟨g27, 0, none⟩) 1 1) (nums := [t.alpha]) (k := 1) 338 3 rfl) (by unfold E8; rw [if_pos hq])), by first | omega | (dsimp only; omega)⟩) ⟨rfl, rfl, rfl, rfl, rfl, rfl, rfl, trivial⟩ (((f2).trans f2).trans f2)
                    · rintro ⟨A, n, c2, es, G⟩ hI
                      replace hI : EInv F G (.slice pA i pc2) (.slice sA i sc) pl sl es n (E8 t pal pl sl) ∧ n ≤ 16 := hI
                      obtain ⟨hE, hn⟩ := hI
                      refine c_sub (L' := [(2, .slice PA 256 pc), (4, .pointer (some ⟨gt, 0, none⟩)), (9, .int .i64 (C : Int)), (21, .slice pA i pc2), (22, .slice sA i sc), (23, .slice rA r rc), (27, .slice A n c2)]) ⟨rfl, rfl, rfl, rfl, rfl, rfl, rfl, trivial⟩ ?_
                      refine c_perm (T := own (.slice A n c2) 64 3 n (es.flatMap EV.cells) :: own (.slice rA r rc) 5 1 r (by8 rl) :: blk gt t.cells 33 :: G) f0 ?_
                      refine c_seq ?_
                      refine c_region ?_
                      refine s_step (st_buildSlice (e := 5) (size := 1) rfl (fun w => bs23_2 _ _ w) rfl (by omega)) rfl rfl rfl ?_
                      rintro _ _ ⟨g30, rfl, rfl⟩
                      refine s_step (st_convB Tryz.underlying23 Tryz.underlying5 rfl) rfl rfl rfl ?_
                      rintro _ _ ⟨rfl, rfl⟩
                      refine s1 (p_assign rfl) rfl rfl rfl ?_
                      refine s_nil ?_
                      refine x_next ?_
                      refine c_cut (α := (Nat)) (fun gg => True) (fun gg => [(4, .pointer (some ⟨gt, 0, none⟩)), (23, .slice rA r rc), (27, .slice A n c2), (28, .slice (some ⟨gg, 0, none⟩) 2 2)]) (fun gg => frz (.slice (some ⟨gg, 0, none⟩) 2 2) 2 (by8 (sig t.big)) :: own (.slice A n c2) 64 3 n (es.flatMap EV.cells) :: own (.slice rA r rc) 5 1 r (by8 rl) :: blk gt t.cells 33 :: G) ?_ ?_
                      · refine c_seq ?_
                        refine c_region ?_
                        refine s1 (p_fieldAddr (fun w => fa33_0 _ w) rfl) rfl rfl rfl ?_
                        refine s1 (p_load m3 Tryz.underlying4 rfl rfl rfl) rfl rfl rfl ?_
                        refine s_nil ?_
                        refine x_next ?_
                        refine c_ifb rfl (fun h314 => ?_) (fun h314 => ?_)
                        · refine c_region ?_
                          refine s_step (st_buildSlice (e := 5) (size := 1) rfl (fun w => bs23_2 _ _ w) rfl (by omega)) rfl rfl rfl ?_
                          rintro _ _ ⟨g31, rfl, rfl⟩
                          refine s_step (st_convB Tryz.underlying23 Tryz.underlying5 rfl) rfl rfl rfl ?_
                          rintro _ _ ⟨rfl, rfl⟩
                          refine s_perm f1 ?_
                          refine s_sat drop0 ?_
                          skip
                          refine s1 (p_assign rfl) rfl rfl rfl ?_
                          refine s_nil ?_
                          rw [show [Value.int .u8 77, Value.int .u8 77] = by8 (sig t.big) by rw [h314]; rfl]
                          exact x_cut g31 (trivial) ⟨rfl, rfl, rfl, rfl, trivial⟩ ((((f3).trans f3).trans f3).trans f3)
                        · refine c_skip ?_
                          rw [show [Value.int .u8 73, Value.int .u8 73] = by8 (sig t.big) by rw [h314]; rfl]
                          exact x_cut g30 (trivial) ⟨rfl, rfl, rfl, rfl, trivial⟩ ((((f3).trans f3).trans f3).trans f3)
                      · rintro g8 hI
                        replace hI : True := hI
                        refine c_sub (L' := [(4, .pointer (some ⟨gt, 0, none⟩)), (23, .slice rA r rc), (27, .slice A n c2), (28, .slice (some ⟨g8, 0, none⟩) 2 2)]) ⟨rfl, rfl, rfl, rfl, trivial⟩ ?_
                        refine c_perm (T := frz (.slice (some ⟨g8, 0, none⟩) 2 2) 2 (by8 (sig t.big)) :: own (.slice A n c2) 64 3 n (es.flatMap EV.cells) :: own (.slice rA r rc) 5 1 r (by8 rl) :: blk gt t.cells 33 :: G) f0 ?_
                        refine c_seq ?_
                        refine c_region ?_
                        refine s1 (p_move rfl) rfl rfl rfl ?_
                        refine s1 (p_len Tryz.underlying23 rfl) rfl rfl rfl ?_
                        refine s1 (p_add rfl rfl (w64 (by omega))) rfl rfl rfl ?_
                        refine s1 (p_assign rfl) rfl rfl rfl ?_
                        refine s_nil ?_
                        refine x_next ?_
                        refine c_seq ?_
                        refine c_draw 13 ([blk gt t.cells 33]) mixed ?_
                        refine d_take 0 rfl (p_move rfl) rfl rfl rfl (by kernel_rfl) (fun _ h => Sat.t1 (Sat.perm (f3) h)) ?_
                        refine d_take 1 rfl (p_fieldAddr (fun w => fa33_0 _ w) rfl) rfl rfl rfl (by kernel_rfl) (fun _ h => Sat.t1 (Sat.perm (f3) h)) ?_
                        refine d_take 2 rfl (p_load m0 Tryz.underlying4 rfl rfl rfl) rfl rfl rfl (by kernel_rfl) (fun _ h => Sat.t1 (Sat.perm (f3) h)) ?_
                        refine d_take 5 rfl (p_fieldAddr (fun w => fa33_0 _ w) rfl) rfl rfl rfl (by kernel_rfl) (fun _ h => Sat.t1 (Sat.perm (f3) h)) ?_
                        refine d_take 6 rfl (p_load m0 Tryz.underlying4 rfl rfl rfl) rfl rfl rfl (by kernel_rfl) (fun _ h => Sat.t1 (Sat.perm (f3) h)) ?_
                        refine d_take 7 rfl (p_move rfl) rfl rfl rfl (by kernel_rfl) (fun _ h => Sat.t1 (Sat.perm (f3) h)) ?_
                        refine d_take 10 rfl (p_move rfl) rfl rfl rfl (by kernel_rfl) (fun _ h => Sat.t1 (Sat.perm (f3) h)) ?_
                        refine d_step 3 rfl (by kernel_rfl) (st_call Tryz.func24 nm24 bo24 rfl (number_spec t.big 2 42 (by omega))) rfl rfl rfl ?_
                        rintro _ _ ⟨A1, c1, rfl, rfl⟩
                        refine ⟨fun _ => (fun _ h => Sat.t1 (Sat.perm (f4) h)), ?_⟩
                        refine d_step 4 rfl (by kernel_rfl) (st_appendG (xs := by8 (sig t.big)) Tryz.underlying23 inf5 rfl (by omega) rfl rfl (rd_frz m1) (rd_own m0) (by omega) (by omega) (by omega) ⟨by omega, by omega⟩) rfl rfl rfl ?_
                        rintro _ _ ⟨A2, c3, rfl, rfl⟩
                        refine ⟨fun _ => (fun _ h => Sat.t1 (Sat.perm (f5) h)), ?_⟩
                        refine h_perm f2 ?_
                        refine h_perm f2 ?_
                        refine h_sat drop0 ?_
                        refine h_sat drop0 ?_
                        rw [by8_append]
                        refine d_step 8 rfl (by kernel_rfl) (st_call Tryz.func24 nm24 bo24 rfl (number_spec t.big 4 _ (by omega))) rfl rfl rfl ?_
                        rintro _ _ ⟨A4, c4, rfl, rfl⟩
                        refine ⟨fun _ => (fun _ h => Sat.t1 (Sat.perm (f4) h)), ?_⟩
                        refine h_perm f1 ?_
                        refine d_step 9 rfl (by kernel_rfl) (st_append Tryz.underlying23 inf5 rfl (by omega) rfl rfl (rd_own m1) (by8_one _) ⟨by omega, by omega⟩) rfl rfl rfl ?_
                        rintro _ _ ⟨A5, c5, rfl, rfl⟩
                        refine ⟨fun _ => (fun _ h => Sat.t1 (Sat.perm (f4) h)), ?_⟩
                        refine h_perm f1 ?_
                        refine h_sat drop0 ?_
                        rw [by8_append]
                        refine d_step 11 rfl (by kernel_rfl) (st_append Tryz.underlying23 inf5 rfl (by omega) rfl rfl (rd_own m2) (by8_one _) ⟨by omega, by omega⟩) rfl rfl rfl ?_
                        rintro _ _ ⟨A6, c6, rfl, rfl⟩
                        refine ⟨fun _ => (fun _ h => Sat.t1 (Sat.perm (f3) h)), ?_⟩
                        refine h_perm f2 ?_
                        refine h_sat drop0 ?_
                        rw [by8_append]
                        refine d_take 12 rfl (p_assign rfl) rfl rfl rfl (by kernel_rfl) (fun _ h => Sat.t1 (Sat.perm (f2) h)) ?_
                        refine d_done (by kernel_rfl) ?_
                        refine x_next ?_
                        refine c_seq ?_
                        refine c_region ?_
                        refine s1 (p_move rfl) rfl rfl rfl ?_
                        refine s1 (p_add rfl rfl (w64 (by omega))) rfl rfl rfl ?_
                        refine s1 (p_move rfl) rfl rfl rfl ?_
                        refine s1 (p_len Tryz.underlying65 rfl) rfl rfl rfl ?_
                        refine s1 (p_mul rfl rfl (w64 (by omega))) rfl rfl rfl ?_
                        refine s1 (p_add rfl rfl (w64 (by omega))) rfl rfl rfl ?_
                        refine s1 (p_add rfl rfl (w64 (by omega))) rfl rfl rfl ?_
                        refine s1 (p_assign rfl) rfl rfl rfl ?_
                        refine s_nil ?_
                        refine x_next ?_
                        refine c_seq ?_
                        refine c_region ?_
                        refine s_step (st_buildSlice (e := 5) (size := 1) rfl (fun w => bs23_0 w) rfl (by omega)) rfl rfl rfl ?_
                        rintro _ _ ⟨g32, rfl, rfl⟩
                        refine s1 (p_assign rfl) rfl rfl rfl ?_
                        refine s_nil ?_
                        refine x_next ?_
                        refine c_seq ?_
                        refine c_region ?_
                        refine s1 (p_move rfl) rfl rfl rfl ?_
                        refine s1 (p_fieldAddr (fun w => fa33_0 _ w) rfl) rfl rfl rfl ?_
                        refine s1 (p_load m3 Tryz.underlying4 rfl rfl rfl) rfl rfl rfl ?_
                        refine s1 (p_move rfl) rfl rfl rfl ?_
                        refine s1 (p_len Tryz.underlying65 rfl) rfl rfl rfl ?_
                        refine s_step (st_call Tryz.func24 nm24 bo24 rfl (number_spec t.big 2 _ (by omega))) rfl rfl rfl ?_
                        rintro _ _ ⟨A7, c7, rfl, rfl⟩
                        refine s_perm f2 ?_
                        refine s_step (st_append Tryz.underlying23 inf5 rfl (by omega) rfl rfl (rd_own m1) (by8_one _) ⟨by omega, by omega⟩) rfl rfl rfl ?_
                        rintro _ _ ⟨A8, c8, rfl, rfl⟩
                        refine s_perm f1 ?_
                        refine s_sat drop0 ?_
                        rw [by8_append]
                        obtain ⟨O, hO⟩ : ∃ x, x = (((sig t.big ++ num t.big 2 42) ++ num t.big 4 (8 + (r : Int))) ++ rl) ++ num t.big 2 (n : Int) := ⟨_, rfl⟩
                        have hOl : O.length = r + 10 := by rw [hO]; simp [sig_length, num_length, hrl2]; omega
                        rw [← hO]
                        have hnE : (E8 t pal pl sl).length = n := by rw [← hE.ents, List.length_map, hE.len]
                        have hEn := E8_nums (t := t) (sz := sl) hpal (show pl.length ≤ 1000 by omega) (show sl.length ≤ 1000 by omega)
                        refine s1 (p_assign rfl) rfl rfl rfl ?_
                        refine s_nil ?_
                        refine x_next ?_
                        refine c_seq ?_
                        refine c_seq ?_
                        refine c_region ?_
                        refine s1 (p_move rfl) rfl rfl rfl ?_
                        refine s1 (p_len Tryz.underlying65 rfl) rfl rfl rfl ?_
                        refine s1 (p_move rfl) rfl rfl rfl ?_
                        refine s_nil ?_
                        refine x_next ?_
                        refine c_block ?_
                        refine c_loop (α := (Nat) × (Option Addr) × (Nat) × (Nat) × (List Int) × (Option Addr) × (Nat) × (Nat) × (List Int) × (List (List Int))) (fun gg => gg.1 ≤ n ∧ gg.2.2.2.2.1 = O ++ gg.2.2.2.2.2.2.2.2.2.flatten ∧ gg.2.2.2.2.1.length = gg.2.2.1 ∧ gg.2.2.2.2.2.2.2.2.1.length = gg.2.2.2.2.2.2.1 ∧ gg.2.2.2.2.2.2.2.2.2.length = gg.1 ∧ gg.2.2.2.2.2.2.1 ≤ 5000 * gg.1 ∧ gg.2.2.1 = r + 10 + 12 * gg.1 ∧ (∀ (j : Nat) p e, gg.2.2.2.2.2.2.2.2.2[j]? = some p → (E8 t pal pl sl)[j]? = some e → Placed t.big (8 + (r : Int) + 2 + 12 * (n : Int) + 4) gg.2.2.2.2.2.2.2.2.1 p e)) (fun gg => n - gg.1) (fun gg => [(4, .pointer (some ⟨gt, 0, none⟩)), (28, .slice gg.2.1 gg.2.2.1 gg.2.2.2.1), (30, .int .i64 (8 + (r : Int) + 2 + 12 * (n : Int) + 4)), (31, .slice gg.2.2.2.2.2.1 gg.2.2.2.2.2.2.1 gg.2.2.2.2.2.2.2.1), (347, .slice A n c2), (348, .int .i64 (n : Int)), (349, .int .i64 (gg.1 : Int))]) (fun gg => own (.slice gg.2.1 gg.2.2.1 gg.2.2.2.1) 5 1 gg.2.2.1 (by8 gg.2.2.2.2.1) :: own (.slice gg.2.2.2.2.2.1 gg.2.2.2.2.2.2.1 gg.2.2.2.2.2.2.2.1) 5 1 gg.2.2.2.2.2.2.1 (by8 gg.2.2.2.2.2.2.2.2.1) :: own (.slice A n c2) 64 3 n (es.flatMap EV.cells) :: blk gt t.cells 33 :: G) ⟨0, _, _, _, O, _, 0, 0, [], []⟩ (⟨Nat.zero_le _, by simp, by dsimp only; omega, rfl, rfl, Nat.zero_le _, by dsimp only; omega, fun j p e hp => by simp at hp⟩) ⟨rfl, rfl, rfl, rfl, rfl, rfl, rfl, trivial⟩ ((((f3).trans f3).trans f3).trans f3) ?_
                        rintro ⟨q, oA, on, oc, ol, tA, tn, tc, tl, ps⟩ hI
                        replace hI : q ≤ n ∧ ol = O ++ ps.flatten ∧ ol.length = on ∧ tl.length = tn ∧ ps.length = q ∧ tn ≤ 5000 * q ∧ on = r + 10 + 12 * q ∧ (∀ (j : Nat) p e, ps[j]? = some p → (E8 t pal pl sl)[j]? = some e → Placed t.big (8 + (r : Int) + 2 + 12 * (n : Int) + 4) tl p e) := hI
                        obtain ⟨hq, hol0, hol, htl, hps, htn, hon, hpl8⟩ := hI
                        refine c_sub (L' := [(4, .pointer (some ⟨gt, 0, none⟩)), (28, .slice oA on oc), (30, .int .i64 (8 + (r : Int) + 2 + 12 * (n : Int) + 4)), (31, .slice tA tn tc), (347, .slice A n c2), (348, .int .i64 (n : Int)), (349, .int .i64 (q : Int))]) ⟨rfl, rfl, rfl, rfl, rfl, rfl, rfl, trivial⟩ ?_
                        refine c_perm (T := own (.slice oA on oc) 5 1 on (by8 ol) :: own (.slice tA tn tc) 5 1 tn (by8 tl) :: own (.slice A n c2) 64 3 n (es.flatMap EV.cells) :: blk gt t.cells 33 :: G) f0 ?_
                        refine c_seq ?_
                        refine c_region ?_
                        refine s1 (p_lt rfl rfl) rfl rfl rfl ?_
                        refine s_nil ?_
                        refine x_next ?_
                        refine c_seq ?_
                        refine c_if rfl (fun h350 => ?_) (fun h350 => ?_)
                        · refine c_skip ?_
                          refine x_next ?_
                          refine c_seq ?_
                          refine c_block ?_
                          refine c_seq ?_
                          obtain ⟨e, he⟩ : ∃ e, es[q]? = some e := ⟨_, List.getElem?_eq_getElem (by have := hE.len; omega)⟩
                          have hem := List.mem_of_getElem? he
                          have he8 : (E8 t pal pl sl)[q]? = some e.ent := by rw [← hE.ents, List.getElem?_map, he]; rfl
                          have hnm := hEn _ (List.mem_of_getElem? he8)
                          refine c_have (p := ∃ A c, e.v = .slice A e.nums.length c) (fun w h => (hE.rd e hem w h.tail.tail.tail.tail).slice) ?_
                          rintro ⟨eA, ec, hev⟩
                          obtain ⟨tg, kd, ev_, nm⟩ := e
                          simp only at hev
                          subst hev
                          have hrd : ∀ w, Sat w G → Reads w (.slice eA nm.length ec) 1 nm.length (in64 nm) := hE.rd _ hem
                          replace hnm : nm.length ≤ 1000 := hnm
                          replace he8 : (E8 t pal pl sl)[q]? = some ⟨tg, kd, nm⟩ := he8
                          refine c_region ?_
                          refine s1 (p_index (kk := q * 3) Tryz.underlying65 sz64 rfl rfl (rd_own m2) (by omega) (by omega) (by omega)) rfl rfl rfl ?_
                          refine s1 (p_loadEA (cs := [.int .i64 tg, .int .i64 kd, .slice eA nm.length ec]) Tryz.underlying64 rfl sz64 rfl (rd_own m2) rfl (by omega) (fun j u hu => flat_get (f := EV.cells) (q := 3) (fun _ => rfl) he hu)) rfl rfl rfl ?_
                          refine s_step (st_alloc ze64) rfl rfl rfl ?_
                          rintro _ _ ⟨ge, rfl, rfl⟩
                          refine s_step0 (st_storeA rfl rfl rfl sz64 rfl) rfl rfl ?_
                          rintro _ _ rfl
                          refine s_nil ?_
                          refine x_next ?_
                          refine c_seq ?_
                          refine c_region ?_
                          refine s1 (p_assign rfl) rfl rfl rfl ?_
                          refine s_nil ?_
                          refine x_next ?_
                          refine c_cut (α := (Nat)) (fun gg => gg = Ent.size ⟨tg, kd, nm⟩ ∧ 2 ≤ gg ∧ gg ≤ 4) (fun gg => [(4, .pointer (some ⟨gt, 0, none⟩)), (28, .slice oA on oc), (30, .int .i64 (8 + (r : Int) + 2 + 12 * (n : Int) + 4)), (31, .slice tA tn tc), (347, .slice A n c2), (348, .int .i64 (n : Int)), (349, .int .i64 (q : Int)), (33, .pointer (some ⟨ge, 0, none⟩)), (34, .int .i64 (gg : Int))]) (fun gg => blk ge [.int .i64 tg, .int .i64 kd, .slice eA nm.length ec] 64 :: own (.slice oA on oc) 5 1 on (by8 ol) :: own (.slice tA tn tc) 5 1 tn (by8 tl) :: own (.slice A n c2) 64 3 n (es.flatMap EV.cells) :: blk gt t.cells 33 :: G) ?_ ?_
                          · refine c_seq ?_
                            refine c_region ?_
                            refine s1 (p_fieldAddr (fun w => fa64_1 _ w) rfl) rfl rfl rfl ?_
                            refine s1 (p_load m0 Tryz.underlying3 rfl rfl rfl) rfl rfl rfl ?_
                            refine s1 (p_eq rfl rfl) rfl rfl rfl ?_
                            refine s_nil ?_
                            refine x_next ?_
                            refine c_if rfl (fun h355 => ?_) (fun h355 => ?_)
                            · refine c_region ?_
                              refine s1 (p_assign rfl) rfl rfl rfl ?_
                              refine s_nil ?_
                              exact x_cut 4 (⟨by unfold Ent.size; rw [if_pos h355], by omega, by omega⟩) ⟨rfl, rfl, rfl, rfl, rfl, rfl, rfl, rfl, rfl, trivial⟩ (((((f4).trans f4).trans f4).trans f4).trans f4)
                            · refine c_skip ?_
                              exact x_cut 2 (⟨by unfold Ent.size; rw [if_neg h355], by omega, by omega⟩) ⟨rfl, rfl, rfl, rfl, rfl, rfl, rfl, rfl, rfl, trivial⟩ (((((f4).trans f4).trans f4).trans f4).trans f4)
                          · rintro sz hI
                            replace hI : sz = Ent.size ⟨tg, kd, nm⟩ ∧ 2 ≤ sz ∧ sz ≤ 4 := hI
                            obtain ⟨hsz, hsz2, hsz4⟩ := hI
                            refine c_sub (L' := [(4, .pointer (some ⟨gt, 0, none⟩)), (28, .slice oA on oc), (30, .int .i64 (8 + (r : Int) + 2 + 12 * (n : Int) + 4)), (31, .slice tA tn tc), (347, .slice A n c2), (348, .int .i64 (n : Int)), (349, .int .i64 (q : Int)), (33, .pointer (some ⟨ge, 0, none⟩)), (34, .int .i64 (sz : Int))]) ⟨rfl, rfl, rfl, rfl, rfl, rfl, rfl, rfl, rfl, trivial⟩ ?_
                            refine c_perm (T := blk ge [.int .i64 tg, .int .i64 kd, .slice eA nm.length ec] 64 :: own (.slice oA on oc) 5 1 on (by8 ol) :: own (.slice tA tn tc) 5 1 tn (by8 tl) :: own (.slice A n c2) 64 3 n (es.flatMap EV.cells) :: blk gt t.cells 33 :: G) f0 ?_
                            refine c_seq ?_
                            refine c_region ?_
                            refine s_step (st_buildSlice (e := 5) (size := 1) rfl (fun w => bs23_0 w) rfl (by omega)) rfl rfl rfl ?_
                            rintro _ _ ⟨g33, rfl, rfl⟩
                            refine s1 (p_assign rfl) rfl rfl rfl ?_
                            refine s_nil ?_
                            refine x_next ?_
                            refine c_seq ?_
                            refine c_seq ?_
                            refine c_region ?_
                            refine s1 (p_fieldAddr (fun w => fa64_2 _ w) rfl) rfl rfl rfl ?_
                            refine s1 (p_load m1 Tryz.underlying43 rfl rfl rfl) rfl rfl rfl ?_
                            refine s1 (p_len Tryz.underlying43 rfl) rfl rfl rfl ?_
                            refine s1 (p_move rfl) rfl rfl rfl ?_
                            refine s_nil ?_
                            refine x_next ?_
                            refine c_block ?_
                            refine c_loop (α := (Nat) × (Option Addr) × (Nat) × (Nat)) (fun gg => gg.1 ≤ nm.length ∧ ((nm.take gg.1).flatMap (num t.big sz)).length = gg.2.2.1 ∧ gg.2.2.1 ≤ 4 * gg.1) (fun gg => nm.length - gg.1) (fun gg => [(4, .pointer (some ⟨gt, 0, none⟩)), (28, .slice oA on oc), (30, .int .i64 (8 + (r : Int) + 2 + 12 * (n : Int) + 4)), (31, .slice tA tn tc), (347, .slice A n c2), (348, .int .i64 (n : Int)), (349, .int .i64 (q : Int)), (33, .pointer (some ⟨ge, 0, none⟩)), (34, .int .i64 (sz : Int)), (35, .slice gg.2.1 gg.2.2.1 gg.2.2.2), (358, .slice eA nm.length ec), (359, .int .i64 (nm.length : Int)), (360, .int .i64 (gg.1 : Int))]) (fun gg => own (.slice gg.2.1 gg.2.2.1 gg.2.2.2) 5 1 gg.2.2.1 (by8 ((nm.take gg.1).flatMap (num t.big sz))) :: blk ge [.int .i64 tg, .int .i64 kd, .slice eA nm.length ec] 64 :: own (.slice oA on oc) 5 1 on (by8 ol) :: own (.slice tA tn tc) 5 1 tn (by8 tl) :: own (.slice A n c2) 64 3 n (es.flatMap EV.cells) :: blk gt t.cells 33 :: G) ⟨0, _, 0, 0⟩ (⟨Nat.zero_le _, rfl, Nat.zero_le _⟩) ⟨rfl, rfl, rfl, rfl, rfl, rfl, rfl, rfl, rfl, rfl, rfl, rfl, rfl, trivial⟩ ((((((f5).trans f5).trans f5).trans f5).trans f5).trans f5) ?_
                            rintro ⟨k, bA, bn, bc⟩ hI
                            replace hI : k ≤ nm.length ∧ ((nm.take k).flatMap (num t.big sz)).length = bn ∧ bn ≤ 4 * k := hI
                            obtain ⟨hk, hbl, hbn⟩ := hI
                            refine c_sub (L' := [(4, .pointer (some ⟨gt, 0, none⟩)), (28, .slice oA on oc), (30, .int .i64 (8 + (r : Int) + 2 + 12 * (n : Int) + 4)), (31, .slice tA tn tc), (347, .slice A n c2), (348, .int .i64 (n : Int)), (349, .int .i64 (q : Int)), (33, .pointer (some ⟨ge, 0, none⟩)), (34, .int .i64 (sz : Int)), (35, .slice bA bn bc), (358, .slice eA nm.length ec), (359, .int .i64 (nm.length : Int)), (360, .int .i64 (k : Int))]) ⟨rfl, rfl, rfl, rfl, rfl, rfl, rfl, rfl, rfl, rfl, rfl, rfl, rfl, trivial⟩ ?_
                            refine c_perm (T := own (.slice bA bn bc) 5 1 bn (by8 ((nm.take k).flatMap (num t.big sz))) :: blk ge [.int .i64 tg, .int .i64 kd, .slice eA nm.length ec] 64 :: own (.slice oA on oc) 5 1 on (by8 ol) :: own (.slice tA tn tc) 5 1 tn (by8 tl) :: own (.slice A n c2) 64 3 n (es.flatMap EV.cells) :: blk gt t.cells 33 :: G) f0 ?_
                            refine c_seq ?_
                            refine c_region ?_
                            refine s1 (p_lt rfl rfl) rfl rfl rfl ?_
                            refine s_nil ?_
                            refine x_next ?_
                            refine c_seq ?_
                            refine c_if rfl (fun h361 => ?_) (fun h361 => ?_)
                            · refine c_skip ?_
                              refine x_next ?_
                              refine c_seq ?_
                              refine c_block ?_
                              refine c_seq ?_
                              refine c_region ?_
                              refine s1 (p_index (kk := k) Tryz.underlying43 sz3 rfl rfl (fun w h => hrd w h.tail.tail.tail.tail.tail.tail) (by omega) (by omega) (by omega)) rfl rfl rfl ?_
                              refine s1 (p_loadE Tryz.underlying3 rfl rfl (fun w h => hrd w h.tail.tail.tail.tail.tail.tail) (in64_get (by omega))) rfl rfl rfl ?_
                              refine s1 (p_assign rfl) rfl rfl rfl ?_
                              refine s_nil ?_
                              refine x_next ?_
                              refine c_region ?_
                              refine s1 (p_move rfl) rfl rfl rfl ?_
                              refine s1 (p_fieldAddr (fun w => fa33_0 _ w) rfl) rfl rfl rfl ?_
                              refine s1 (p_load m5 Tryz.underlying4 rfl rfl rfl) rfl rfl rfl ?_
                              refine s1 (p_move rfl) rfl rfl rfl ?_
                              refine s1 (p_move rfl) rfl rfl rfl ?_
                              refine s_step (st_call Tryz.func24 nm24 bo24 rfl (number_spec t.big sz _ (by omega))) rfl rfl rfl ?_
                              rintro _ _ ⟨A2, c4, rfl, rfl⟩
                              refine s_perm f1 ?_
                              refine s_step (st_append Tryz.underlying23 inf5 rfl (by omega) rfl rfl (rd_own m1) (by8_one _) ⟨by omega, by omega⟩) rfl rfl rfl ?_
                              rintro _ _ ⟨A1, c1, rfl, rfl⟩
                              refine s_perm f1 ?_
                              refine s_sat drop0 ?_
                              rw [by8_append, flatI_take (by omega)]
                              refine s1 (p_assign rfl) rfl rfl rfl ?_
                              refine s_nil ?_
                              refine x_block ?_
                              refine x_next ?_
                              refine c_region ?_
                              refine s1 (p_add rfl rfl (w64 (by omega))) rfl rfl rfl ?_
                              refine s1 (p_move rfl) rfl rfl rfl ?_
                              refine s_nil ?_
                              exact x_loop ⟨k + 1, A1, bn + sz, c1⟩ (⟨by dsimp only; omega, by rw [← flatI_take (show k < nm.length by omega), List.length_append, hbl, num_length], by dsimp only; omega⟩) (by dsimp only; omega) ⟨rfl, rfl, rfl, rfl, rfl, rfl, rfl, rfl, rfl, rfl, rfl, rfl, rfl, trivial⟩ ((((((f5).trans f5).trans f5).trans f5).trans f5).trans f5)
                            · refine c_exit ?_
                              refine x_exit_then ?_
                              refine x_exit_then ?_
                              refine x_exit_here ?_
                              refine x_next ?_
                              refine c_seq ?_
                              obtain rfl : k = nm.length := by omega
                              obtain ⟨B, hB⟩ : ∃ x, x = Ent.body t.big ⟨tg, kd, nm⟩ := ⟨_, rfl⟩
                              have hB2 : (nm.take nm.length).flatMap (num t.big sz) = B := by rw [hB, List.take_length, hsz]; rfl
                              rw [hB2] at hbl ⊢
                              refine c_draw 21 ([blk gt t.cells 33, blk ge [.int .i64 tg, .int .i64 kd, .slice eA nm.length ec] 64]) mixed ?_
                              refine d_take 0 rfl (p_move rfl) rfl rfl rfl (by kernel_rfl) (fun _ h => Sat.t2 (Sat.perm ((f1).trans f5) h)) ?_
                              refine d_take 1 rfl (p_fieldAddr (fun w => fa33_0 _ w) rfl) rfl rfl rfl (by kernel_rfl) (fun _ h => Sat.t2 (Sat.perm ((f1).trans f5) h)) ?_
                              refine d_take 2 rfl (p_load m0 Tryz.underlying4 rfl rfl rfl) rfl rfl rfl (by kernel_rfl) (fun _ h => Sat.t2 (Sat.perm ((f1).trans f5) h)) ?_
                              refine d_take 3 rfl (p_fieldAddr (fun w => fa64_0 _ w) rfl) rfl rfl rfl (by kernel_rfl) (fun _ h => Sat.t2 (Sat.perm ((f1).trans f5) h)) ?_
                              refine d_take 4 rfl (p_load m1 Tryz.underlying3 rfl rfl rfl) rfl rfl rfl (by kernel_rfl) (fun _ h => Sat.t2 (Sat.perm ((f1).trans f5) h)) ?_
                              refine d_take 7 rfl (p_fieldAddr (fun w => fa33_0 _ w) rfl) rfl rfl rfl (by kernel_rfl) (fun _ h => Sat.t2 (Sat.perm ((f1).trans f5) h)) ?_
                              refine d_take 8 rfl (p_load m0 Tryz.underlying4 rfl rfl rfl) rfl rfl rfl (by kernel_rfl) (fun _ h => Sat.t2 (Sat.perm ((f1).trans f5) h)) ?_
                              refine d_take 9 rfl (p_fieldAddr (fun w => fa64_1 _ w) rfl) rfl rfl rfl (by kernel_rfl) (fun _ h => Sat.t2 (Sat.perm ((f1).trans f5) h)) ?_
                              refine d_take 10 rfl (p_load m1 Tryz.underlying3 rfl rfl rfl) rfl rfl rfl (by kernel_rfl) (fun _ h => Sat.t2 (Sat.perm ((f1).trans f5) h)) ?_
                              refine d_take 13 rfl (p_fieldAddr (fun w => fa33_0 _ w) rfl) rfl rfl rfl (by kernel_rfl) (fun _ h => Sat.t2 (Sat.perm ((f1).trans f5) h)) ?_
                              refine d_take 14 rfl (p_load m0 Tryz.underlying4 rfl rfl rfl) rfl rfl rfl (by kernel_rfl) (fun _ h => Sat.t2 (Sat.perm ((f1).trans f5) h)) ?_
                              refine d_take 15 rfl (p_fieldAddr (fun w => fa64_2 _ w) rfl) rfl rfl rfl (by kernel_rfl) (fun _ h => Sat.t2 (Sat.perm ((f1).trans f5) h)) ?_
                              refine d_take 16 rfl (p_load m1 Tryz.underlying43 rfl rfl rfl) rfl rfl rfl (by kernel_rfl) (fun _ h => Sat.t2 (Sat.perm ((f1).trans f5) h)) ?_
                              refine d_take 17 rfl (p_len Tryz.underlying43 rfl) rfl rfl rfl (by kernel_rfl) (fun _ h => Sat.t2 (Sat.perm ((f1).trans f5) h)) ?_
                              refine d_step 5 rfl (by kernel_rfl) (st_call Tryz.func24 nm24 bo24 rfl (number_spec t.big 2 _ (by omega))) rfl rfl rfl ?_
                              rintro _ _ ⟨A5, d5, rfl, rfl⟩
                              refine ⟨fun _ => (fun _ h => Sat.t2 (Sat.perm ((f2).trans f6) h)), ?_⟩
                              refine h_perm f3 ?_
                              refine d_step 6 rfl (by kernel_rfl) (st_append Tryz.underlying23 inf5 rfl (by omega) rfl rfl (rd_own m1) (by8_one _) ⟨by omega, by omega⟩) rfl rfl rfl ?_
                              rintro _ _ ⟨B5, e5, rfl, rfl⟩
                              refine ⟨fun _ => (fun _ h => Sat.t2 (Sat.perm ((f3).trans f6) h)), ?_⟩
                              refine h_perm f1 ?_
                              refine h_sat drop0 ?_
                              rw [by8_append]
                              refine d_step 11 rfl (by kernel_rfl) (st_call Tryz.func24 nm24 bo24 rfl (number_spec t.big 2 _ (by omega))) rfl rfl rfl ?_
                              rintro _ _ ⟨A11, d11, rfl, rfl⟩
                              refine ⟨fun _ => (fun _ h => Sat.t2 (Sat.perm ((f3).trans f6) h)), ?_⟩
                              refine h_perm f1 ?_
                              refine d_step 12 rfl (by kernel_rfl) (st_append Tryz.underlying23 inf5 rfl (by omega) rfl rfl (rd_own m1) (by8_one _) ⟨by omega, by omega⟩) rfl rfl rfl ?_
                              rintro _ _ ⟨B11, e11, rfl, rfl⟩
                              refine ⟨fun _ => (fun _ h => Sat.t2 (Sat.perm ((f3).trans f6) h)), ?_⟩
                              refine h_perm f1 ?_
                              refine h_sat drop0 ?_
                              rw [by8_append]
                              refine d_step 18 rfl (by kernel_rfl) (st_call Tryz.func24 nm24 bo24 rfl (number_spec t.big 4 _ (by omega))) rfl rfl rfl ?_
                              rintro _ _ ⟨A18, d18, rfl, rfl⟩
                              refine ⟨fun _ => (fun _ h => Sat.t2 (Sat.perm ((f3).trans f6) h)), ?_⟩
                              refine h_perm f1 ?_
                              refine d_step 19 rfl (by kernel_rfl) (st_append Tryz.underlying23 inf5 rfl (by omega) rfl rfl (rd_own m1) (by8_one _) ⟨by omega, by omega⟩) rfl rfl rfl ?_
                              rintro _ _ ⟨B18, e18, rfl, rfl⟩
                              refine ⟨fun _ => (fun _ h => Sat.t2 (Sat.perm ((f3).trans f6) h)), ?_⟩
                              refine h_perm f1 ?_
                              refine h_sat drop0 ?_
                              rw [by8_append]
                              refine d_take 20 rfl (p_assign rfl) rfl rfl rfl (by kernel_rfl) (fun _ h => Sat.t2 (Sat.perm ((f2).trans f5) h)) ?_
                              refine d_done (by kernel_rfl) ?_
                              refine x_next ?_
                              refine c_seq ?_
                              refine c_region ?_
                              refine s1 (p_move rfl) rfl rfl rfl ?_
                              refine s1 (p_len Tryz.underlying23 rfl) rfl rfl rfl ?_
                              refine s1 (p_le rfl rfl) rfl rfl rfl ?_
                              refine s_nil ?_
                              refine x_next ?_
                              refine c_if rfl (fun h394 => ?_) (fun h394 => ?_)
                              · refine c_region ?_
                                refine s1 (p_move rfl) rfl rfl rfl ?_
                                refine s1 (p_move rfl) rfl rfl rfl ?_
                                refine s1 (p_move rfl) rfl rfl rfl ?_
                                refine s1 (p_len Tryz.underlying23 rfl) rfl rfl rfl ?_
                                refine s1 (p_sub rfl rfl ((w64 (by omega)).trans (show 4 - (bn : Int) = ((4 - bn : Nat) : Int) by omega))) rfl rfl rfl ?_
                                refine s_perm f1 ?_
                                refine s_step (st_appendZ Tryz.underlying23 Tryz.underlying3 inf5 rfl rfl (by omega)) rfl rfl rfl ?_
                                rintro _ _ ⟨A21, c21, rfl, rfl⟩
                                refine s_perm f1 ?_
                                refine s_step (st_append Tryz.underlying23 inf5 rfl (by omega) rfl rfl (rd_own m1) (by8_one _) ⟨by omega, by omega⟩) rfl rfl rfl ?_
                                rintro _ _ ⟨A22, c22, rfl, rfl⟩
                                rw [by8_append]
                                refine s1 (p_assign rfl) rfl rfl rfl ?_
                                refine s_nil ?_
                                refine x_block ?_
                                refine x_next ?_
                                refine c_region ?_
                                refine s1 (p_add rfl rfl (w64 (by omega))) rfl rfl rfl ?_
                                refine s1 (p_move rfl) rfl rfl rfl ?_
                                refine s_nil ?_
                                refine x_perm f5 ?_
                                refine x_perm f5 ?_
                                refine x_perm f5 ?_
                                refine x_perm f3 ?_
                                refine x_perm f5 ?_
                                refine x_perm f5 ?_
                                refine x_sat drop0 ?_
                                refine x_sat drop0 ?_
                                have hhd : Ent.head t.big ⟨tg, kd, nm⟩ = num t.big 2 tg ++ (num t.big 2 kd ++ num t.big 4 (nm.length : Int)) := rfl
                                have hhl := Ent.head_length t.big ⟨tg, kd, nm⟩
                                have hle : (B ++ List.replicate (4 - bn) (0 : Int)).length = 4 := by rw [List.length_append, List.length_replicate, hbl]; omega
                                rw [show ol ++ num t.big 2 tg ++ num t.big 2 kd ++ num t.big 4 (nm.length : Int) ++ (B ++ List.replicate (4 - bn) 0) = ol ++ (Ent.head t.big ⟨tg, kd, nm⟩ ++ (B ++ List.replicate (4 - bn) 0)) by rw [hhd]; simp only [List.append_assoc]]
                                exact x_loop ⟨q + 1, _, _, _, _, tA, tn, tc, tl, ps ++ [Ent.head t.big ⟨tg, kd, nm⟩ ++ (B ++ List.replicate (4 - bn) 0)]⟩ (⟨by dsimp only; omega, by dsimp only; rw [hol0]; simp only [List.flatten_append, List.flatten_cons, List.flatten_nil, List.append_nil, List.append_assoc], by dsimp only; rw [List.length_append, List.length_append, hle, hhl, hol]; omega, htl, by simp [hps], by dsimp only; omega, by dsimp only; omega, placed_snoc hps hpl8 (fun _ _ h => h) he8 (.inl ⟨by rw [← hB, hbl]; omega, by rw [← hB, hbl]⟩)⟩) (by dsimp only; omega) ⟨rfl, rfl, rfl, rfl, rfl, rfl, rfl, trivial⟩ ((((f3).trans f3).trans f3).trans f3)
                              · refine c_seq ?_
                                refine c_region ?_
                                refine s1 (p_move rfl) rfl rfl rfl ?_
                                refine s1 (p_fieldAddr (fun w => fa33_0 _ w) rfl) rfl rfl rfl ?_
                                refine s1 (p_load m5 Tryz.underlying4 rfl rfl rfl) rfl rfl rfl ?_
                                refine s1 (p_move rfl) rfl rfl rfl ?_
                                refine s1 (p_move rfl) rfl rfl rfl ?_
                                refine s1 (p_len Tryz.underlying23 rfl) rfl rfl rfl ?_
                                refine s1 (p_add rfl rfl (w64 (by omega))) rfl rfl rfl ?_
                                refine s_step (st_call Tryz.func24 nm24 bo24 rfl (number_spec t.big 4 _ (by omega))) rfl rfl rfl ?_
                                rintro _ _ ⟨A23, c23, rfl, rfl⟩
                                refine s_perm f1 ?_
                                refine s_step (st_append Tryz.underlying23 inf5 rfl (by omega) rfl rfl (rd_own m1) (by8_one _) ⟨by omega, by omega⟩) rfl rfl rfl ?_
                                rintro _ _ ⟨A24, c24, rfl, rfl⟩
                                refine s_perm f1 ?_
                                refine s_sat drop0 ?_
                                rw [by8_append]
                                refine s1 (p_assign rfl) rfl rfl rfl ?_
                                refine s_nil ?_
                                refine x_next ?_
                                refine c_seq ?_
                                refine c_region ?_
                                refine s1 (p_move rfl) rfl rfl rfl ?_
                                refine s1 (p_move rfl) rfl rfl rfl ?_
                                refine s_perm f3 ?_
                                refine s_step (st_append Tryz.underlying23 inf5 rfl (by omega) rfl rfl (rd_own m2) (by8_one _) ⟨by omega, by omega⟩) rfl rfl rfl ?_
                                rintro _ _ ⟨A25, c25, rfl, rfl⟩
                                rw [by8_append]
                                refine s1 (p_assign rfl) rfl rfl rfl ?_
                                refine s_nil ?_
                                refine x_next ?_
                                refine c_seq ?_
                                refine c_region ?_
                                refine s1 (p_move rfl) rfl rfl rfl ?_
                                refine s1 (p_len Tryz.underlying23 rfl) rfl rfl rfl ?_
                                refine s1 (p_rem rfl rfl (by omega) (tm (by omega))) rfl rfl rfl ?_
                                refine s1 (p_eq rfl rfl) rfl rfl rfl ?_
                                refine s_nil ?_
                                refine x_next ?_
                                refine c_if rfl (fun h417 => ?_) (fun h417 => ?_)
                                · refine c_region ?_
                                  refine s1 (p_move rfl) rfl rfl rfl ?_
                                  refine s_step (st_buildSlice (e := 5) (size := 1) rfl (fun w => bs23_1 _ w) rfl (by omega)) rfl rfl rfl ?_
                                  rintro _ _ ⟨g34, rfl, rfl⟩
                                  refine s_perm f1 ?_
                                  refine s_step (st_append Tryz.underlying23 inf5 rfl (by omega) rfl rfl (rd_own m1) (by simp [Value.oneCell']) ⟨by omega, by omega⟩) rfl rfl rfl ?_
                                  rintro _ _ ⟨A26, c26, rfl, rfl⟩
                                  refine s_perm f1 ?_
                                  refine s_sat drop0 ?_
                                  rw [by8_push]
                                  refine s1 (p_assign rfl) rfl rfl rfl ?_
                                  refine s_nil ?_
                                  refine x_block ?_
                                  refine x_next ?_
                                  refine c_region ?_
                                  refine s1 (p_add rfl rfl (w64 (by omega))) rfl rfl rfl ?_
                                  refine s1 (p_move rfl) rfl rfl rfl ?_
                                  refine s_nil ?_
                                  refine x_perm f5 ?_
                                  refine x_perm f5 ?_
                                  refine x_perm f2 ?_
                                  refine x_perm f3 ?_
                                  refine x_perm f5 ?_
                                  refine x_perm f5 ?_
                                  refine x_sat drop0 ?_
                                  refine x_sat drop0 ?_
                                  have hhd : Ent.head t.big ⟨tg, kd, nm⟩ = num t.big 2 tg ++ (num t.big 2 kd ++ num t.big 4 (nm.length : Int)) := rfl
                                  have hhl := Ent.head_length t.big ⟨tg, kd, nm⟩
                                  rw [show ol ++ num t.big 2 tg ++ num t.big 2 kd ++ num t.big 4 (nm.length : Int) ++ num t.big 4 (8 + (r : Int) + 2 + 12 * (n : Int) + 4 + (tn : Int)) = ol ++ (Ent.head t.big ⟨tg, kd, nm⟩ ++ num t.big 4 (8 + (r : Int) + 2 + 12 * (n : Int) + 4 + (tn : Int))) by rw [hhd]; simp only [List.append_assoc]]
                                  rw [List.append_assoc tl B [0]]
                                  have htl2 : (tl ++ (B ++ [0])).length = tn + bn + 1 := by simp [htl, hbl]; omega
                                  exact x_loop ⟨q + 1, _, _, _, _, _, _, _, tl ++ (B ++ [0]), ps ++ [Ent.head t.big ⟨tg, kd, nm⟩ ++ num t.big 4 (8 + (r : Int) + 2 + 12 * (n : Int) + 4 + (tn : Int))]⟩ (⟨by dsimp only; omega, by dsimp only; rw [hol0]; simp only [List.flatten_append, List.flatten_cons, List.flatten_nil, List.append_nil, List.append_assoc], by dsimp only; rw [List.length_append, List.length_append, num_length, hhl, hol], htl2, by simp [hps], by dsimp only; omega, by dsimp only; omega, placed_snoc hps hpl8 (fun _ _ h => h.grow _) he8 (.inr ⟨by rw [← hB, hbl]; omega, tn, rfl, by rw [← hB, ← htl, List.drop_append_of_le_length (Nat.le_refl _), List.drop_length, List.nil_append]; rw [List.take_append_of_le_length (Nat.le_refl _), List.take_length], by rw [← hB, htl2, hbl]; omega⟩)⟩) (by dsimp only; omega) ⟨rfl, rfl, rfl, rfl, rfl, rfl, rfl, trivial⟩ ((((f3).trans f3).trans f3).trans f3)
                                · refine c_skip ?_
                                  refine x_block ?_
                                  refine x_next ?_
                                  refine c_region ?_
                                  refine s1 (p_add rfl rfl (w64 (by omega))) rfl rfl rfl ?_
                                  refine s1 (p_move rfl) rfl rfl rfl ?_
                                  refine s_nil ?_
                                  refine x_perm f5 ?_
                                  refine x_perm f5 ?_
                                  refine x_perm f2 ?_
                                  refine x_perm f3 ?_
                                  refine x_perm f5 ?_
                                  refine x_perm f5 ?_
                                  refine x_sat drop0 ?_
                                  refine x_sat drop0 ?_
                                  have hhd : Ent.head t.big ⟨tg, kd, nm⟩ = num t.big 2 tg ++ (num t.big 2 kd ++ num t.big 4 (nm.length : Int)) := rfl
                                  have hhl := Ent.head_length t.big ⟨tg, kd, nm⟩
                                  rw [show ol ++ num t.big 2 tg ++ num t.big 2 kd ++ num t.big 4 (nm.length : Int) ++ num t.big 4 (8 + (r : Int) + 2 + 12 * (n : Int) + 4 + (tn : Int)) = ol ++ (Ent.head t.big ⟨tg, kd, nm⟩ ++ num t.big 4 (8 + (r : Int) + 2 + 12 * (n : Int) + 4 + (tn : Int))) by rw [hhd]; simp only [List.append_assoc]]
                                  have htl2 : (tl ++ B).length = tn + bn := by simp [htl, hbl]
                                  exact x_loop ⟨q + 1, _, _, _, _, _, _, _, tl ++ B, ps ++ [Ent.head t.big ⟨tg, kd, nm⟩ ++ num t.big 4 (8 + (r : Int) + 2 + 12 * (n : Int) + 4 + (tn : Int))]⟩ (⟨by dsimp only; omega, by dsimp only; rw [hol0]; simp only [List.flatten_append, List.flatten_cons, List.flatten_nil, List.append_nil, List.append_assoc], by dsimp only; rw [List.length_append, List.length_append, num_length, hhl, hol], htl2, by simp [hps], by dsimp only; omega, by dsimp only; omega, placed_snoc hps hpl8 (fun _ _ h => h.grow _) he8 (.inr ⟨by rw [← hB, hbl]; omega, tn, rfl, by rw [← hB, ← htl, List.drop_append_of_le_length (Nat.le_refl _), List.drop_length, List.nil_append]; rw [List.take_length], by rw [← hB, htl2, hbl]; omega⟩)⟩) (by dsimp only; omega) ⟨rfl, rfl, rfl, rfl, rfl, rfl, rfl, trivial⟩ ((((f3).trans f3).trans f3).trans f3)
                        · refine c_exit ?_
                          refine x_exit_then ?_
                          refine x_exit_then ?_
                          refine x_exit_here ?_
                          refine x_next ?_
                          refine c_seq ?_
                          refine c_region ?_
                          refine s1 (p_move rfl) rfl rfl rfl ?_
                          refine s_step (st_buildSlice (e := 5) (size := 1) rfl (fun w => bs23_4 _ _ _ _ w) rfl (by omega)) rfl rfl rfl ?_
                          rintro _ _ ⟨g40, rfl, rfl⟩
                          refine s_perm f1 ?_
                          refine s_step (st_append (ys := by8 [0, 0, 0, 0]) Tryz.underlying23 inf5 rfl (by omega) rfl rfl (rd_own m1) (by8_one _) ⟨by omega, by omega⟩) rfl rfl rfl ?_
                          rintro _ _ ⟨A41, c41, rfl, rfl⟩
                          refine s_perm f1 ?_
                          refine s_sat drop0 ?_
                          rw [by8_append]
                          refine s1 (p_move rfl) rfl rfl rfl ?_
                          refine s_step (st_append Tryz.underlying23 inf5 rfl (by omega) rfl rfl (rd_own m1) (by8_one _) ⟨by omega, by omega⟩) rfl rfl rfl ?_
                          rintro _ _ ⟨A42, c42, rfl, rfl⟩
                          rw [by8_append]
                          refine s1 (p_assign rfl) rfl rfl rfl ?_
                          refine s_nil ?_
                          refine x_next ?_
                          refine c_ret ?_
                          obtain rfl : q = n := by omega
                          refine x_sat (fun w h => back h hE.sub hE.sat) ?_
                          refine x_done_one rfl rfl ⟨A42, _, c42, _, rfl, ?_, by omega, ⟨rl, num t.big 2 (q : Int) ++ (ps.flatten ++ ([0, 0, 0, 0] ++ tl)), pl, sl, tl, ps, ?_, by omega, by omega, ⟨by rw [hnE], by omega, hpn, hsn, by omega, by omega, by omega, by omega, by rw [hnE]; exact hps, by rw [hnE, hrl2]; exact hpl8⟩⟩, rfl⟩
                          · simp [hol, htl]; omega
                          · rw [hol0, hO, hd8, hrl2]; simp only [List.append_assoc]

end V
end Go.Proofs.YtaflcjoagfnhfaaGreatDoor
