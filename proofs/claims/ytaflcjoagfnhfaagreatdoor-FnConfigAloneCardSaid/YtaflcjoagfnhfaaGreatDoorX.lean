/- Walks: the first value of a feature; an entry of the directory is taken in. -/
import Derived.Test.YtaflcjoagfnhfaaGreatDoorW
namespace Go.Proofs.YtaflcjoagfnhfaaGreatDoor
namespace V
open Go Go.Proofs

/-- A palette's colour, as an interface value. -/
def ifc (x : RGB) : Value := .iface 139 (.agg [.int .u16 (257 * x.1), .int .u16 (257 * x.2.1), .int .u16 (257 * x.2.2), .int .u16 65535].toArray)
def PRes (pal : List RGB) (tg : Int) (nm : List Int) (dcs dcs' : List Value) (ks ks' : List (Int × Value)) (G : List As) : Prop :=
  (tg = 277 ∧ dcs' = dcs ∧ ks' = ks) ∨ (tg = 320 ∧ ks' = ks ∧ ∃ PA pc, dcs' = dcs.set 9 (.slice PA 256 pc) ∧ ∀ w, Sat w G → Reads w (.slice PA 256 pc) 1 256 (pal.map ifc)) ∨
  (tg ≠ 277 ∧ tg ≠ 320 ∧ dcs' = dcs ∧ ∃ U uc, ks' = ks ++ [(tg, .slice U nm.length uc)] ∧ ∀ w, Sat w G → Reads w (.slice U nm.length uc) 1 nm.length (u64L nm))
theorem ext_sub {G G' : List As} (h : ∃ X, G' = X ++ G) : ∀ C, C ∈ G → C ∈ G' := by
  obtain ⟨X, rfl⟩ := h; exact fun C hC => List.mem_append_right _ hC
theorem sat_app {w : World} {G : List As} : ∀ {X : List As}, Sat w (X ++ G) → Sat w G
  | [], h => h
  | _ :: _, h => sat_app h.tail
theorem sat_appL {w : World} : ∀ {X G : List As}, Sat w (X ++ G) → Sat w X
  | [], _, _ => trivial
  | _ :: _, _, h => h.perm_cons (fun _ hC => List.mem_append_left _ hC) (sat_appL h.tail)
theorem ext_sat {G G' : List As} (h : ∃ X, G' = X ++ G) : ∀ w, Sat w G' → Sat w G := by
  obtain ⟨X, rfl⟩ := h; exact fun w hw => sat_app hw
theorem ext_trans {F G G' : List As} (h : ∃ X, G' = X ++ G) (k : ∃ X, G = X ++ F) : ∃ X, G' = X ++ F := by
  obtain ⟨X, rfl⟩ := h; obtain ⟨Y, rfl⟩ := k; exact ⟨X ++ Y, by rw [List.append_assoc]⟩
def FT (tg : Int) : Prop := tg = 256 ∨ tg = 257 ∨ tg = 258 ∨ tg = 259 ∨ tg = 262 ∨ tg = 273 ∨ tg = 278 ∨ tg = 279 ∨ tg = 317 ∨ tg = 322 ∨ tg = 323 ∨ tg = 324 ∨ tg = 325 ∨ tg = 338
theorem setV_take {l m : List Value} {i : Nat} {v : Value} (hl : i < l.length) (hm : m[i]? = some v) (h : l.take i = m.take i) : (l.set i v).take (i + 1) = m.take (i + 1) := by
  rw [List.take_add_one, List.take_add_one, List.take_set_of_le (Nat.le_refl _), h, List.getElem?_set_self hl, hm]
theorem colors_at {l : List RGB} (hl : l.length = 256) {c k : Nat} {x : RGB} (hc : c < 3) (hk : l[k]? = some x) {q : Nat} (hq : q = c * 256 + k) : (u64L (colorsL l))[q]? = some (.int .u64 (colAt x c)) := by
  subst hq
  unfold u64L
  rw [List.getElem?_map, colorsL_get hl hc hk]; rfl

set_option maxRecDepth 100000 in
theorem firstVal_spec {F : List As} (gd r : Nat) (dcs : List Value) (ks : List (Int × Value)) (hD : blk gd dcs 80 ∈ F) (hd8 : dcs[8]? = some (.map (some r))) (hm : mp r ks ∈ F) (tg : Int) (U : Option Addr) (n uc : Nat) (nm : List Int) (hn : nm.length = n) (hn0 : 1 ≤ n) (hv : lookL ks tg = some (.slice U n uc)) (hr : ∀ w, Sat w F → Reads w (.slice U n uc) 1 n (u64L nm)) :
    Fun Tryz.prog 33 [.pointer (some ⟨gd, 0, none⟩), .int .i64 tg] (F) (fun u T => u = .int .u64 (nm.getD 0 0) ∧ T = F) := by
  refine fun_intro Tryz.func33 rfl Tryz.ntmps33 (Nat.le_of_ble_eq_true rfl) ?_
  refine c_seq ?_
  refine c_region ?_
  refine s1 (p_assign rfl) rfl rfl rfl ?_
  refine s_nil ?_
  refine x_next ?_
  refine c_seq ?_
  refine c_region ?_
  refine s1 (p_move rfl) rfl rfl rfl ?_
  refine s1 (p_nilCheck rfl) rfl rfl rfl ?_
  refine s1 (p_fieldAddr (fun w => fa80_5 _ w) rfl) rfl rfl rfl ?_
  refine s1 (p_load hD Tryz.underlying78 rfl rfl hd8) rfl rfl rfl ?_
  refine s1 (p_move rfl) rfl rfl rfl ?_
  refine s1 (p_lookup hm Tryz.underlying78 Tryz.underlying3 rfl rfl hv) rfl rfl rfl ?_
  refine s1 (p_assign rfl) rfl rfl rfl ?_
  refine s_nil ?_
  refine x_next ?_
  refine c_seq ?_
  refine c_seq ?_
  refine c_region ?_
  refine s1 (p_move rfl) rfl rfl rfl ?_
  refine s1 (p_len Tryz.underlying107 rfl) rfl rfl rfl ?_
  refine s1 (pb_false (p_eq rfl rfl) (by omega)) rfl rfl rfl ?_
  refine s_nil ?_
  refine x_next ?_
  refine c_false rfl ?_
  refine c_skip ?_
  refine x_next ?_
  refine c_seq ?_
  refine c_region ?_
  refine s1 (p_move rfl) rfl rfl rfl ?_
  refine s1 (p_index (kk := 0) Tryz.underlying107 sz59 rfl rfl hr (by omega) (by omega) (by omega)) rfl rfl rfl ?_
  refine s1 (p_loadE Tryz.underlying59 rfl rfl hr (u64L_get (by omega))) rfl rfl rfl ?_
  refine s1 (p_assign rfl) rfl rfl rfl ?_
  refine s_nil ?_
  refine x_next ?_
  refine c_ret ?_
  exact x_done_one rfl rfl ⟨rfl, rfl⟩

set_option maxHeartbeats 2000000 in
set_option maxRecDepth 100000 in
theorem parse_spec {G : List As} (gd gr r : Nat) (dcs : List Value) (ks : List (Int × Value)) (big : Bool) (pal : List RGB) (hd0 : dcs[0]? = some (.iface 53 (.pointer (some ⟨gr, 0, none⟩)))) (hd1 : dcs[1]? = some (ordV big)) (hd8 : dcs[8]? = some (.map (some r))) (hdl : dcs.length = 14) (A : Option Addr) (N c : Nat) (l : List Int) (hl : l.length = N) (hN : N ≤ 1000000000) (hb : blk gr [.slice A N c, .int .i64 0, .int .i64 (-1)] 82 ∈ G) (hr : ∀ w, Sat w G → Reads w (.slice A N c) 1 N (by8 l)) (hlen : ∀ w, Sat w G → ∀ o u, lens[o]? = some u → w.cell? ⟨5, o, none⟩ = some u) (pA : Option Addr) (pc : Nat) (p : List Int) (hp : ∀ w, Sat w G → Reads w (.slice pA 12 pc) 1 12 (by8 p)) (base : Nat) (tail : List Int) (hbase : l.drop base = tail) (hbN : base ≤ N) (tg kd : Int) (nm : List Int) (hpl : Placed big (base : Int) tail p ⟨tg, kd, nm⟩) (hk : kd = 3 ∨ kd = 4) (hn : 1 ≤ nm.length ∧ nm.length ≤ 1000) (hv : ∀ x ∈ nm, 0 ≤ x ∧ x ≤ (if kd = 4 then 4294967295 else 65535)) (htg : tg = 277 ∨ tg = 320 ∨ FT tg) (hnew : ∀ x ∈ ks, x.1 ≠ tg) (hpal : tg = 320 → nm = colorsL pal ∧ pal.length = 256 ∧ ∀ x ∈ pal, inB x) :
    Fun Tryz.prog 32 [.pointer (some ⟨gd, 0, none⟩), .slice pA 12 pc] (blk gd dcs 80 :: mp r ks :: G) (fun u T => u = .tuple #[.int .i64 tg, .nilIface] ∧ ∃ dcs' ks' X, T = blk gd dcs' 80 :: mp r ks' :: (X ++ G) ∧ PRes pal tg nm dcs dcs' ks ks' X) := by
  unfold FT at htg
  have hcut := hpl.cut
  simp only at hcut
  refine fun_intro Tryz.func32 rfl Tryz.ntmps32 (Nat.le_of_ble_eq_true rfl) ?_
  refine c_have (p := 12 ≤ pc) (fun w h => (hp w h.tail.tail).cap) ?_
  intro hpcap
  refine c_seq ?_
  refine c_region ?_
  refine s1 (p_assign rfl) rfl rfl rfl ?_
  refine s1 (p_assign rfl) rfl rfl rfl ?_
  refine s_nil ?_
  refine x_next ?_
  refine c_seq ?_
  refine c_draw 10 (blk gd dcs 80 :: mp r ks :: G) mixed ?_
  refine d_take 0 rfl (p_move rfl) rfl rfl rfl (by kernel_rfl) (fun _ h => h) ?_
  refine d_take 1 rfl (p_nilCheck rfl) rfl rfl rfl (by kernel_rfl) (fun _ h => h) ?_
  refine d_take 2 rfl (p_fieldAddr (fun w => fa80_1 _ w) rfl) rfl rfl rfl (by kernel_rfl) (fun _ h => h) ?_
  refine d_take 3 rfl (p_load m0 Tryz.underlying76 rfl rfl hd1) rfl rfl rfl (by kernel_rfl) (fun _ h => h) ?_
  refine d_take 4 rfl (p_move rfl) rfl rfl rfl (by kernel_rfl) (fun _ h => h) ?_
  refine d_take 5 rfl (p_slice (l := 0) (h := 2) Tryz.underlying23 sz5 rfl rfl rfl rfl rfl (by omega) (by omega)) rfl rfl rfl (by kernel_rfl) (fun _ h => h) ?_
  refine d_take 6 rfl (p_nilCheckI rfl) rfl rfl rfl (by kernel_rfl) (fun _ h => h) ?_
  refine d_take 7 rfl (p_move rfl) rfl rfl rfl (by kernel_rfl) (fun _ h => h) ?_
  refine d_step 8 rfl (by kernel_rfl) (st_u16 (big := big) (v := tg) (by omega) (by omega) rfl rfl (fun w h => by have := rd_slice8 (lo := 0) (hi := 2) hp (by omega) (by omega) w h.tail.tail; rwa [show 2 - 0 = 2 from rfl, hcut.1] at this)) rfl rfl rfl ?_
  rintro _ _ ⟨rfl, rfl⟩
  refine ⟨fun _ => (fun _ h => h), ?_⟩
  refine d_take 9 rfl (p_assign rfl) rfl rfl rfl (by kernel_rfl) (fun _ h => h) ?_
  refine d_done (by kernel_rfl) ?_
  refine x_next ?_
  refine c_seq ?_
  refine c_seq ?_
  refine c_region ?_
  refine s1 (p_move rfl) rfl rfl rfl ?_
  refine s_nil ?_
  refine x_next ?_
  refine c_block ?_
  refine c_cut (α := (Bool)) (fun gg => gg = decide (tg ≠ 277 ∧ tg ≠ 320)) (fun gg => [(0, .pointer (some ⟨gd, 0, none⟩)), (1, .slice pA 12 pc), (6, .int .u16 tg), (26, .int .u16 tg), (27, .bool gg)]) (fun gg => blk gd dcs 80 :: mp r ks :: G) ?_ ?_
  · refine c_seq ?_
    refine c_region ?_
    refine s1 (p_eq rfl rfl) rfl rfl rfl ?_
    refine s1 (p_assign rfl) rfl rfl rfl ?_
    refine s_nil ?_
    refine x_next ?_
    refine c_if rfl (fun h27 => ?_) (fun h27 => ?_)
    · refine c_skip ?_
      exact x_cut _ (by first | (rw [decide_eq_decide]; omega) | (dsimp only; rw [decide_eq_decide]; omega)) ⟨rfl, rfl, rfl, rfl, rfl, trivial⟩ ((f1).trans f1)
    · refine c_seq ?_
      refine c_region ?_
      refine s1 (p_eq rfl rfl) rfl rfl rfl ?_
      refine s1 (p_assign rfl) rfl rfl rfl ?_
      refine s_nil ?_
      refine x_next ?_
      refine c_if rfl (fun h27 => ?_) (fun h27 => ?_)
      · refine c_skip ?_
        exact x_cut _ (by first | (rw [decide_eq_decide]; omega) | (dsimp only; rw [decide_eq_decide]; omega)) ⟨rfl, rfl, rfl, rfl, rfl, trivial⟩ ((f1).trans f1)
      · refine c_seq ?_
        refine c_region ?_
        refine s1 (p_eq rfl rfl) rfl rfl rfl ?_
        refine s1 (p_assign rfl) rfl rfl rfl ?_
        refine s_nil ?_
        refine x_next ?_
        refine c_if rfl (fun h27 => ?_) (fun h27 => ?_)
        · refine c_skip ?_
          exact x_cut _ (by first | (rw [decide_eq_decide]; omega) | (dsimp only; rw [decide_eq_decide]; omega)) ⟨rfl, rfl, rfl, rfl, rfl, trivial⟩ ((f1).trans f1)
        · refine c_seq ?_
          refine c_region ?_
          refine s1 (p_eq rfl rfl) rfl rfl rfl ?_
          refine s1 (p_assign rfl) rfl rfl rfl ?_
          refine s_nil ?_
          refine x_next ?_
          refine c_if rfl (fun h27 => ?_) (fun h27 => ?_)
          · refine c_skip ?_
            exact x_cut _ (by first | (rw [decide_eq_decide]; omega) | (dsimp only; rw [decide_eq_decide]; omega)) ⟨rfl, rfl, rfl, rfl, rfl, trivial⟩ ((f1).trans f1)
          · refine c_seq ?_
            refine c_region ?_
            refine s1 (p_eq rfl rfl) rfl rfl rfl ?_
            refine s1 (p_assign rfl) rfl rfl rfl ?_
            refine s_nil ?_
            refine x_next ?_
            refine c_if rfl (fun h27 => ?_) (fun h27 => ?_)
            · refine c_skip ?_
              exact x_cut _ (by first | (rw [decide_eq_decide]; omega) | (dsimp only; rw [decide_eq_decide]; omega)) ⟨rfl, rfl, rfl, rfl, rfl, trivial⟩ ((f1).trans f1)
            · refine c_seq ?_
              refine c_region ?_
              refine s1 (p_eq rfl rfl) rfl rfl rfl ?_
              refine s1 (p_assign rfl) rfl rfl rfl ?_
              refine s_nil ?_
              refine x_next ?_
              refine c_if rfl (fun h27 => ?_) (fun h27 => ?_)
              · refine c_skip ?_
                exact x_cut _ (by first | (rw [decide_eq_decide]; omega) | (dsimp only; rw [decide_eq_decide]; omega)) ⟨rfl, rfl, rfl, rfl, rfl, trivial⟩ ((f1).trans f1)
              · refine c_seq ?_
                refine c_region ?_
                refine s1 (p_eq rfl rfl) rfl rfl rfl ?_
                refine s1 (p_assign rfl) rfl rfl rfl ?_
                refine s_nil ?_
                refine x_next ?_
                refine c_if rfl (fun h27 => ?_) (fun h27 => ?_)
                · refine c_skip ?_
                  exact x_cut _ (by first | (rw [decide_eq_decide]; omega) | (dsimp only; rw [decide_eq_decide]; omega)) ⟨rfl, rfl, rfl, rfl, rfl, trivial⟩ ((f1).trans f1)
                · refine c_seq ?_
                  refine c_region ?_
                  refine s1 (p_eq rfl rfl) rfl rfl rfl ?_
                  refine s1 (p_assign rfl) rfl rfl rfl ?_
                  refine s_nil ?_
                  refine x_next ?_
                  refine c_if rfl (fun h27 => ?_) (fun h27 => ?_)
                  · refine c_skip ?_
                    exact x_cut _ (by first | (rw [decide_eq_decide]; omega) | (dsimp only; rw [decide_eq_decide]; omega)) ⟨rfl, rfl, rfl, rfl, rfl, trivial⟩ ((f1).trans f1)
                  · refine c_seq ?_
                    refine c_region ?_
                    refine s1 (p_eq rfl rfl) rfl rfl rfl ?_
                    refine s1 (p_assign rfl) rfl rfl rfl ?_
                    refine s_nil ?_
                    refine x_next ?_
                    refine c_if rfl (fun h27 => ?_) (fun h27 => ?_)
                    · refine c_skip ?_
                      exact x_cut _ (by first | (rw [decide_eq_decide]; omega) | (dsimp only; rw [decide_eq_decide]; omega)) ⟨rfl, rfl, rfl, rfl, rfl, trivial⟩ ((f1).trans f1)
                    · refine c_seq ?_
                      refine c_region ?_
                      refine s1 (p_eq rfl rfl) rfl rfl rfl ?_
                      refine s1 (p_assign rfl) rfl rfl rfl ?_
                      refine s_nil ?_
                      refine x_next ?_
                      refine c_if rfl (fun h27 => ?_) (fun h27 => ?_)
                      · refine c_skip ?_
                        exact x_cut _ (by first | (rw [decide_eq_decide]; omega) | (dsimp only; rw [decide_eq_decide]; omega)) ⟨rfl, rfl, rfl, rfl, rfl, trivial⟩ ((f1).trans f1)
                      · refine c_seq ?_
                        refine c_region ?_
                        refine s1 (p_eq rfl rfl) rfl rfl rfl ?_
                        refine s1 (p_assign rfl) rfl rfl rfl ?_
                        refine s_nil ?_
                        refine x_next ?_
                        refine c_if rfl (fun h27 => ?_) (fun h27 => ?_)
                        · refine c_skip ?_
                          exact x_cut _ (by first | (rw [decide_eq_decide]; omega) | (dsimp only; rw [decide_eq_decide]; omega)) ⟨rfl, rfl, rfl, rfl, rfl, trivial⟩ ((f1).trans f1)
                        · refine c_seq ?_
                          refine c_region ?_
                          refine s1 (p_eq rfl rfl) rfl rfl rfl ?_
                          refine s1 (p_assign rfl) rfl rfl rfl ?_
                          refine s_nil ?_
                          refine x_next ?_
                          refine c_if rfl (fun h27 => ?_) (fun h27 => ?_)
                          · refine c_skip ?_
                            exact x_cut _ (by first | (rw [decide_eq_decide]; omega) | (dsimp only; rw [decide_eq_decide]; omega)) ⟨rfl, rfl, rfl, rfl, rfl, trivial⟩ ((f1).trans f1)
                          · refine c_seq ?_
                            refine c_region ?_
                            refine s1 (p_eq rfl rfl) rfl rfl rfl ?_
                            refine s1 (p_assign rfl) rfl rfl rfl ?_
                            refine s_nil ?_
                            refine x_next ?_
                            refine c_if rfl (fun h27 => ?_) (fun h27 => ?_)
                            · refine c_skip ?_
                              exact x_cut _ (by first | (rw [decide_eq_decide]; omega) | (dsimp only; rw [decide_eq_decide]; omega)) ⟨rfl, rfl, rfl, rfl, rfl, trivial⟩ ((f1).trans f1)
                            · refine c_seq ?_
                              refine c_region ?_
                              refine s1 (p_eq rfl rfl) rfl rfl rfl ?_
                              refine s1 (p_assign rfl) rfl rfl rfl ?_
                              refine s_nil ?_
                              refine x_next ?_
                              refine c_if rfl (fun h27 => ?_) (fun h27 => ?_)
                              · refine c_skip ?_
                                exact x_cut _ (by first | (rw [decide_eq_decide]; omega) | (dsimp only; rw [decide_eq_decide]; omega)) ⟨rfl, rfl, rfl, rfl, rfl, trivial⟩ ((f1).trans f1)
                              · refine c_seq ?_
                                refine c_region ?_
                                refine s1 (p_eq rfl rfl) rfl rfl rfl ?_
                                refine s1 (p_assign rfl) rfl rfl rfl ?_
                                refine s_nil ?_
                                refine x_next ?_
                                refine c_if rfl (fun h27 => ?_) (fun h27 => ?_)
                                · refine c_skip ?_
                                  exact x_cut _ (by first | (rw [decide_eq_decide]; omega) | (dsimp only; rw [decide_eq_decide]; omega)) ⟨rfl, rfl, rfl, rfl, rfl, trivial⟩ ((f1).trans f1)
                                · refine c_seq ?_
                                  refine c_region ?_
                                  refine s1 (p_eq rfl rfl) rfl rfl rfl ?_
                                  refine s1 (p_assign rfl) rfl rfl rfl ?_
                                  refine s_nil ?_
                                  refine x_next ?_
                                  refine c_if rfl (fun h27 => ?_) (fun h27 => ?_)
                                  · refine c_skip ?_
                                    exact x_cut _ (by first | (rw [decide_eq_decide]; omega) | (dsimp only; rw [decide_eq_decide]; omega)) ⟨rfl, rfl, rfl, rfl, rfl, trivial⟩ ((f1).trans f1)
                                  · refine c_region ?_
                                    refine s1 (p_eq rfl rfl) rfl rfl rfl ?_
                                    refine s1 (p_assign rfl) rfl rfl rfl ?_
                                    refine s_nil ?_
                                    exact x_cut _ (by first | (rw [decide_eq_decide]; omega) | (dsimp only; rw [decide_eq_decide]; omega)) ⟨rfl, rfl, rfl, rfl, rfl, trivial⟩ ((f1).trans f1)
  · rintro b hI
    replace hI : b = decide (tg ≠ 277 ∧ tg ≠ 320) := hI
    refine c_sub (L' := [(0, .pointer (some ⟨gd, 0, none⟩)), (1, .slice pA 12 pc), (6, .int .u16 tg), (26, .int .u16 tg), (27, .bool b)]) ⟨rfl, rfl, rfl, rfl, rfl, trivial⟩ ?_
    refine c_perm (T := blk gd dcs 80 :: mp r ks :: G) f0 ?_
    subst hI
    refine c_if rfl (fun hft => ?_) (fun hft => ?_)
    · refine c_seq ?_
      refine c_region ?_
      refine s1 (p_move rfl) rfl rfl rfl ?_
      refine s1 (p_move rfl) rfl rfl rfl ?_
      refine s_step (st_call Tryz.func46 nm46 bo46 rfl (ifd_spec gd gr dcs big m0 hd0 hd1 A N c l hl hN (List.mem_cons_of_mem _ (List.mem_cons_of_mem _ hb)) (fun w h => hr w h.tail.tail) (fun w h => hlen w h.tail.tail) pA pc p (fun w h => hp w h.tail.tail) base tail hbase hbN tg kd nm hpl hk hn hv)) rfl rfl rfl ?_
      rintro _ _ ⟨U, uc, rfl, rfl⟩
      refine s1 (p_move rfl) rfl rfl rfl ?_
      refine s1 (p_extract rfl rfl) rfl rfl rfl ?_
      refine s1 (p_extract rfl rfl) rfl rfl rfl ?_
      refine s1 (p_assign rfl) rfl rfl rfl ?_
      refine s1 (p_assign rfl) rfl rfl rfl ?_
      refine s_nil ?_
      refine x_next ?_
      refine c_seq ?_
      refine c_seq ?_
      refine c_region ?_
      refine s1 (p_move rfl) rfl rfl rfl ?_
      refine s1 (p_errnil Tryz.underlying50 rfl) rfl rfl rfl ?_
      refine s_nil ?_
      refine x_next ?_
      refine c_false rfl ?_
      refine c_skip ?_
      refine x_next ?_
      refine c_region ?_
      refine s1 (p_move rfl) rfl rfl rfl ?_
      refine s1 (p_nilCheck rfl) rfl rfl rfl ?_
      refine s1 (p_fieldAddr (fun w => fa80_5 _ w) rfl) rfl rfl rfl ?_
      refine s1 (p_load m1 Tryz.underlying78 rfl rfl hd8) rfl rfl rfl ?_
      refine s1 (p_move rfl) rfl rfl rfl ?_
      refine s1 (p_conv Tryz.underlying100 Tryz.underlying3 rfl (w64 (by omega))) rfl rfl rfl ?_
      refine s1 (p_move rfl) rfl rfl rfl ?_
      refine s_perm f2 ?_
      refine s_step0 (st_mapUpdate Tryz.underlying78 Tryz.underlying3 rfl rfl rfl hnew) rfl rfl ?_
      rintro _ _ rfl
      refine s_nil ?_
      refine x_block ?_
      refine x_next ?_
      refine c_seq ?_
      refine c_region ?_
      refine s1 (p_move rfl) rfl rfl rfl ?_
      refine s1 (p_conv Tryz.underlying100 Tryz.underlying3 rfl (w64 (by omega))) rfl rfl rfl ?_
      refine s1 (p_assign rfl) rfl rfl rfl ?_
      refine s1 (p_assign rfl) rfl rfl rfl ?_
      refine s_nil ?_
      refine x_next ?_
      refine c_ret ?_
      refine x_perm (T := blk gd dcs 80 :: mp r (ks ++ [(tg, .slice U nm.length uc)]) :: own (.slice U nm.length uc) 59 1 nm.length (u64L nm) :: G) (((f1).trans f1).trans f2) ?_
      exact x_done_two rfl rfl rfl ⟨rfl, dcs, _, [own (.slice U nm.length uc) 59 1 nm.length (u64L nm)], rfl, .inr (.inr ⟨hft.1, hft.2, rfl, U, uc, rfl, rd_own m0⟩)⟩
    · refine c_seq ?_
      refine c_region ?_
      refine s1 (p_eq rfl rfl) rfl rfl rfl ?_
      refine s1 (p_assign rfl) rfl rfl rfl ?_
      refine s_nil ?_
      refine x_next ?_
      refine c_if rfl (fun h61 => ?_) (fun h61 => ?_)
      · refine c_seq ?_
        obtain ⟨rfl, hpl0, hin⟩ := hpal h61
        have hnl : (colorsL pal).length = 768 := colorsL_length hpl0
        refine c_region ?_
        refine s1 (p_move rfl) rfl rfl rfl ?_
        refine s1 (p_move rfl) rfl rfl rfl ?_
        refine s_step (st_call Tryz.func46 nm46 bo46 rfl (ifd_spec gd gr dcs big m0 hd0 hd1 A N c l hl hN (List.mem_cons_of_mem _ (List.mem_cons_of_mem _ hb)) (fun w h => hr w h.tail.tail) (fun w h => hlen w h.tail.tail) pA pc p (fun w h => hp w h.tail.tail) base tail hbase hbN tg kd (colorsL pal) hpl hk hn hv)) rfl rfl rfl ?_
        rintro _ _ ⟨U, uc, rfl, rfl⟩
        rw [hnl]
        refine s1 (p_move rfl) rfl rfl rfl ?_
        refine s1 (p_extract rfl rfl) rfl rfl rfl ?_
        refine s1 (p_extract rfl rfl) rfl rfl rfl ?_
        refine s1 (p_assign rfl) rfl rfl rfl ?_
        refine s1 (p_assign rfl) rfl rfl rfl ?_
        refine s_nil ?_
        refine x_next ?_
        refine c_seq ?_
        refine c_seq ?_
        refine c_region ?_
        refine s1 (p_move rfl) rfl rfl rfl ?_
        refine s1 (p_errnil Tryz.underlying50 rfl) rfl rfl rfl ?_
        refine s_nil ?_
        refine x_next ?_
        refine c_false rfl ?_
        refine c_skip ?_
        refine x_next ?_
        refine c_seq ?_
        refine c_region ?_
        refine s1 (p_move rfl) rfl rfl rfl ?_
        refine s1 (p_len Tryz.underlying107 rfl) rfl rfl rfl ?_
        refine s1 (p_quo rfl rfl (by omega) (show _ = (256 : Int) from rfl)) rfl rfl rfl ?_
        refine s1 (p_assign rfl) rfl rfl rfl ?_
        refine s_nil ?_
        refine x_next ?_
        refine c_seq ?_
        refine c_seq ?_
        refine c_region ?_
        refine s1 (p_move rfl) rfl rfl rfl ?_
        refine s1 (p_len Tryz.underlying107 rfl) rfl rfl rfl ?_
        refine s1 (p_rem rfl rfl (by omega) (show _ = (0 : Int) from rfl)) rfl rfl rfl ?_
        refine s1 (pb_false (p_ne rfl rfl) (by omega)) rfl rfl rfl ?_
        refine s1 (p_move rfl) rfl rfl rfl ?_
        refine sg1 (p_move rfl) rfl rfl rfl rfl ?_
        refine sg1 (pb_false (p_le rfl rfl) (by omega)) rfl rfl rfl rfl ?_
        refine s1 (p_pickF rfl rfl) rfl rfl rfl ?_
        refine s1 (p_move rfl) rfl rfl rfl ?_
        refine sg1 (p_move rfl) rfl rfl rfl rfl ?_
        refine sg1 (pb_false (p_gt rfl rfl) (by omega)) rfl rfl rfl rfl ?_
        refine s1 (p_pickF rfl rfl) rfl rfl rfl ?_
        refine s_nil ?_
        refine x_next ?_
        refine c_false rfl ?_
        refine c_skip ?_
        refine x_next ?_
        refine c_seq ?_
        refine c_region ?_
        refine s1 (p_move rfl) rfl rfl rfl ?_
        refine s1 (p_move rfl) rfl rfl rfl ?_
        refine s_step (st_makeSlice (k := .i64) (n := 256) (z := .nilIface) Tryz.underlying45 inf89 rfl rfl rfl ⟨by omega, by omega⟩) rfl rfl rfl ?_
        rintro _ _ ⟨gp, rfl, rfl⟩
        refine s1 (p_nilCheck rfl) rfl rfl rfl ?_
        refine s1 (p_fieldAddr (fun w => fa80_6 _ w) rfl) rfl rfl rfl ?_
        refine s_perm f2 ?_
        refine s_step0 (st_store rfl rfl rfl sz45 (by omega)) rfl rfl ?_
        rintro _ _ rfl
        refine s_nil ?_
        refine x_next ?_
        refine c_seq ?_
        refine c_region ?_
        refine s1 (p_assign rfl) rfl rfl rfl ?_
        refine s_nil ?_
        refine x_next ?_
        refine c_block ?_
        refine c_loop (α := (Nat) × (List Value)) (fun gg => gg.1 ≤ 256 ∧ gg.2.length = 256 ∧ gg.2.take gg.1 = (pal.map ifc).take gg.1) (fun gg => 256 - gg.1) (fun gg => [(0, .pointer (some ⟨gd, 0, none⟩)), (6, .int .u16 tg), (9, .slice U 768 uc), (11, .int .i64 256), (12, .int .i64 (gg.1 : Int))]) (fun gg => own (.slice (some ⟨gp, 0, none⟩) 256 256) 89 1 256 gg.2 :: blk gd (dcs.set 9 (.slice (some ⟨gp, 0, none⟩) 256 256)) 80 :: own (.slice U 768 uc) 59 1 768 (u64L (colorsL pal)) :: mp r ks :: G) ⟨0, List.replicate 256 .nilIface⟩ (⟨Nat.zero_le _, by simp, rfl⟩) ⟨rfl, rfl, rfl, rfl, rfl, trivial⟩ ((((f3).trans f3).trans f2).trans f3) ?_
        rintro ⟨i, lv⟩ hI
        replace hI : i ≤ 256 ∧ lv.length = 256 ∧ lv.take i = (pal.map ifc).take i := hI
        obtain ⟨hi, hlv, ht⟩ := hI
        refine c_sub (L' := [(0, .pointer (some ⟨gd, 0, none⟩)), (6, .int .u16 tg), (9, .slice U 768 uc), (11, .int .i64 256), (12, .int .i64 (i : Int))]) ⟨rfl, rfl, rfl, rfl, rfl, trivial⟩ ?_
        refine c_perm (T := own (.slice (some ⟨gp, 0, none⟩) 256 256) 89 1 256 lv :: blk gd (dcs.set 9 (.slice (some ⟨gp, 0, none⟩) 256 256)) 80 :: own (.slice U 768 uc) 59 1 768 (u64L (colorsL pal)) :: mp r ks :: G) f0 ?_
        refine c_seq ?_
        refine c_seq ?_
        refine c_region ?_
        refine s1 (p_move rfl) rfl rfl rfl ?_
        refine s1 (p_move rfl) rfl rfl rfl ?_
        refine s1 (p_lt rfl rfl) rfl rfl rfl ?_
        refine s_nil ?_
        refine x_next ?_
        refine c_if rfl (fun h95 => ?_) (fun h95 => ?_)
        · refine c_skip ?_
          refine x_next ?_
          refine c_seq ?_
          refine c_block ?_
          obtain ⟨x, hx⟩ : ∃ x, pal[i]? = some x := ⟨_, List.getElem?_eq_getElem (by omega)⟩
          obtain ⟨hx0, hx1, hx2⟩ := hin x (List.mem_of_getElem? hx)
          have hdp : (dcs.set 9 (.slice (some ⟨gp, 0, none⟩) 256 256))[9]? = some (.slice (some ⟨gp, 0, none⟩) 256 256) := List.getElem?_set_self (by omega)
          refine c_draw 28 (own (.slice (some ⟨gp, 0, none⟩) 256 256) 89 1 256 lv :: blk gd (dcs.set 9 (.slice (some ⟨gp, 0, none⟩) 256 256)) 80 :: own (.slice U 768 uc) 59 1 768 (u64L (colorsL pal)) :: mp r ks :: G) mixed ?_
          refine d_take 0 rfl (p_move rfl) rfl rfl rfl (by kernel_rfl) (fun _ h => h) ?_
          refine d_take 1 rfl (p_nilCheck rfl) rfl rfl rfl (by kernel_rfl) (fun _ h => h) ?_
          refine d_take 2 rfl (p_fieldAddr (fun w => fa80_6 _ w) rfl) rfl rfl rfl (by kernel_rfl) (fun _ h => h) ?_
          refine d_take 3 rfl (p_load m1 Tryz.underlying45 rfl rfl hdp) rfl rfl rfl (by kernel_rfl) (fun _ h => h) ?_
          refine d_take 4 rfl (p_move rfl) rfl rfl rfl (by kernel_rfl) (fun _ h => h) ?_
          refine d_take 5 rfl (p_move rfl) rfl rfl rfl (by kernel_rfl) (fun _ h => h) ?_
          refine d_take 6 rfl (p_move rfl) rfl rfl rfl (by kernel_rfl) (fun _ h => h) ?_
          refine d_take 7 rfl (p_index (kk := i) Tryz.underlying107 sz59 rfl rfl (rd_own m2) (by omega) (by omega) (by omega)) rfl rfl rfl (by kernel_rfl) (fun _ h => h) ?_
          refine d_take 8 rfl (p_loadE Tryz.underlying59 rfl rfl (rd_own m2) (colors_at (c := 0) hpl0 (by omega) hx (by omega))) rfl rfl rfl (by kernel_rfl) (fun _ h => h) ?_
          refine d_take 9 rfl (p_conv Tryz.underlying59 Tryz.underlying100 rfl (wu16 (show 0 ≤ 257 * x.1 ∧ 257 * x.1 ≤ 65535 by omega))) rfl rfl rfl (by kernel_rfl) (fun _ h => h) ?_
          refine d_take 10 rfl (p_move rfl) rfl rfl rfl (by kernel_rfl) (fun _ h => h) ?_
          refine d_take 11 rfl (p_move rfl) rfl rfl rfl (by kernel_rfl) (fun _ h => h) ?_
          refine d_take 12 rfl (p_move rfl) rfl rfl rfl (by kernel_rfl) (fun _ h => h) ?_
          refine d_take 13 rfl (p_add rfl rfl (w64 (by omega))) rfl rfl rfl (by kernel_rfl) (fun _ h => h) ?_
          refine d_take 14 rfl (p_index (kk := i + 256) Tryz.underlying107 sz59 rfl rfl (rd_own m2) (by omega) (by omega) (by omega)) rfl rfl rfl (by kernel_rfl) (fun _ h => h) ?_
          refine d_take 15 rfl (p_loadE Tryz.underlying59 rfl rfl (rd_own m2) (colors_at (c := 1) hpl0 (by omega) hx (by omega))) rfl rfl rfl (by kernel_rfl) (fun _ h => h) ?_
          refine d_take 16 rfl (p_conv Tryz.underlying59 Tryz.underlying100 rfl (wu16 (show 0 ≤ 257 * x.2.1 ∧ 257 * x.2.1 ≤ 65535 by omega))) rfl rfl rfl (by kernel_rfl) (fun _ h => h) ?_
          refine d_take 17 rfl (p_move rfl) rfl rfl rfl (by kernel_rfl) (fun _ h => h) ?_
          refine d_take 18 rfl (p_move rfl) rfl rfl rfl (by kernel_rfl) (fun _ h => h) ?_
          refine d_take 19 rfl (p_move rfl) rfl rfl rfl (by kernel_rfl) (fun _ h => h) ?_
          refine d_take 20 rfl (p_mul rfl rfl (w64 (by omega))) rfl rfl rfl (by kernel_rfl) (fun _ h => h) ?_
          refine d_take 21 rfl (p_add rfl rfl (w64 (by omega))) rfl rfl rfl (by kernel_rfl) (fun _ h => h) ?_
          refine d_take 22 rfl (p_index (kk := i + 512) Tryz.underlying107 sz59 rfl rfl (rd_own m2) (by omega) (by omega) (by omega)) rfl rfl rfl (by kernel_rfl) (fun _ h => h) ?_
          refine d_take 23 rfl (p_loadE Tryz.underlying59 rfl rfl (rd_own m2) (colors_at (c := 2) hpl0 (by omega) hx (by omega))) rfl rfl rfl (by kernel_rfl) (fun _ h => h) ?_
          refine d_take 24 rfl (p_conv Tryz.underlying59 Tryz.underlying100 rfl (wu16 (show 0 ≤ 257 * x.2.2 ∧ 257 * x.2.2 ≤ 65535 by omega))) rfl rfl rfl (by kernel_rfl) (fun _ h => h) ?_
          refine d_take 25 rfl (p_build rfl (fun w => bd139_4 _ _ _ _ w)) rfl rfl rfl (by kernel_rfl) (fun _ h => h) ?_
          refine d_take 26 rfl (p_makeIface Tryz.underlying139 rfl rfl) rfl rfl rfl (by kernel_rfl) (fun _ h => h) ?_
          refine d_take 27 rfl (p_index (kk := i) Tryz.underlying45 sz89 rfl rfl (rd_own m0) (by omega) (by omega) (by omega)) rfl rfl rfl (by kernel_rfl) (fun _ h => h) ?_
          refine d_step0 28 rfl (by kernel_rfl) (st_storeE rfl rfl rfl sz89 (by omega)) rfl rfl ?_
          rintro _ _ rfl
          refine ⟨fun h => absurd rfl h, ?_⟩
          refine d_done (by kernel_rfl) ?_
          refine x_block ?_
          refine x_next ?_
          refine c_region ?_
          refine s1 (p_move rfl) rfl rfl rfl ?_
          refine s1 (p_add rfl rfl (w64 (by omega))) rfl rfl rfl ?_
          refine s1 (p_assign rfl) rfl rfl rfl ?_
          refine s_nil ?_
          exact x_loop ⟨i + 1, lv.set i (ifc x)⟩ (⟨by dsimp only; omega, by simp [hlv], setV_take (by omega) (by rw [List.getElem?_map, hx]; rfl) ht⟩) (by dsimp only; omega) ⟨rfl, rfl, rfl, rfl, rfl, trivial⟩ ((((f3).trans f3).trans f3).trans f3)
        · refine c_exit ?_
          refine x_exit_then ?_
          refine x_exit_then ?_
          refine x_exit_here ?_
          refine x_block ?_
          refine x_next ?_
          refine c_seq ?_
          refine c_region ?_
          refine s1 (p_move rfl) rfl rfl rfl ?_
          refine s1 (p_conv Tryz.underlying100 Tryz.underlying3 rfl (w64 (by omega))) rfl rfl rfl ?_
          refine s1 (p_assign rfl) rfl rfl rfl ?_
          refine s1 (p_assign rfl) rfl rfl rfl ?_
          refine s_nil ?_
          refine x_next ?_
          refine c_ret ?_
          obtain rfl : i = 256 := by omega
          rw [List.take_of_length_le (by omega), List.take_of_length_le (by simp [hpl0])] at ht
          subst ht
          refine x_perm (T := blk gd (dcs.set 9 (.slice (some ⟨gp, 0, none⟩) 256 256)) 80 :: mp r ks :: own (.slice (some ⟨gp, 0, none⟩) 256 256) 89 1 256 (pal.map ifc) :: own (.slice U 768 uc) 59 1 768 (u64L (colorsL pal)) :: G) ((((f2).trans f1).trans f3).trans f3) ?_
          exact x_done_two rfl rfl rfl ⟨rfl, _, ks, [own (.slice (some ⟨gp, 0, none⟩) 256 256) 89 1 256 (pal.map ifc), own (.slice U 768 uc) 59 1 768 (u64L (colorsL pal))], rfl, .inr (.inl ⟨h61, rfl, _, _, rfl, rd_own m0⟩)⟩
      · refine c_seq ?_
        refine c_region ?_
        refine s1 (pb_false (p_eq rfl rfl) (by omega)) rfl rfl rfl ?_
        refine s1 (p_assign rfl) rfl rfl rfl ?_
        refine s_nil ?_
        refine x_next ?_
        refine c_false rfl ?_
        refine c_skip ?_
        refine x_block ?_
        refine x_next ?_
        refine c_seq ?_
        refine c_region ?_
        refine s1 (p_move rfl) rfl rfl rfl ?_
        refine s1 (p_conv Tryz.underlying100 Tryz.underlying3 rfl (w64 (by omega))) rfl rfl rfl ?_
        refine s1 (p_assign rfl) rfl rfl rfl ?_
        refine s1 (p_assign rfl) rfl rfl rfl ?_
        refine s_nil ?_
        refine x_next ?_
        refine c_ret ?_
        exact x_done_two rfl rfl rfl ⟨rfl, dcs, ks, [], rfl, .inl ⟨by omega, rfl, rfl⟩⟩

end V
end Go.Proofs.YtaflcjoagfnhfaaGreatDoor
