/- A walk: the reference's zlib packer: it returns, with at least six and not many more bytes than it was handed. -/
import Derived.Test.YtaflcjoagfnhfaaGreatDoorH
namespace Go.Proofs.YtaflcjoagfnhfaaGreatDoor
namespace V
open Go Go.Proofs

theorem sat_nil {S : List As} (e : TypeId) (size : Nat) : ∀ w, Sat w S → Sat w (own (.slice none 0 0) e size 0 [] :: S) := by
  intro w h
  exact ⟨⟨by simp, .inl ⟨rfl, rfl⟩⟩, fun _ _ b hb => by simp [own, Value.ownBlock] at hb, h⟩
theorem Wr.new (T : TypeId) (g : Nat) (F : List As) : ∃ S', Wr T g 0 F S' ∧ ∀ w, Sat w (blk g [.slice none 0 0, .int .i64 0] T :: F) → Sat w S' :=
  ⟨_, ⟨none, 0, [], rfl, rfl⟩, fun w h => (sat_nil 5 1 w h).swap⟩
theorem Reads.cap {w : World} {A : Option Addr} {n m c size : Nat} {xs : List Value} (h : Reads w (.slice A n c) size m xs) : m ≤ c := by
  obtain ⟨_, _, A', c', hv, hn, _⟩ := h
  simp only [Value.slice.injEq] at hv
  omega
theorem by8_cut (l : List Int) (a b : Nat) : ((by8 l).drop (a * 1)).take (b * 1) = by8 ((l.drop a).take b) := by simp [by8, List.map_take, List.map_drop]
theorem rd_slice8 {S : List As} {A : Option Addr} {n c lo hi : Nat} {l : List Int} (hr : ∀ w, Sat w S → Reads w (.slice A n c) 1 n (by8 l)) (h1 : lo ≤ hi) (h2 : hi ≤ n) :
    ∀ w, Sat w S → Reads w (.slice (slA A c lo 1) (hi - lo) (c - lo)) 1 (hi - lo) (by8 ((l.drop lo).take (hi - lo))) := by
  intro w hS
  rw [← by8_cut]
  exact rd_slice (hr w hS) h1 h2


set_option maxRecDepth 100000 in
theorem Packed_spec {F : List As} (A : Option Addr) (N c : Nat) (l : List Int) (hl : l.length = N) (size ways : Int) (h0 : 1 ≤ size) (h1 : size ≤ 60000) (hN : N ≤ 1000000) (hr : ∀ w, Sat w F → Reads w (.slice A N c) 1 N (by8 l)) :
    Fun Tryz.prog 28 [.slice A N c, .int .i64 size, .int .i64 ways] (F) (fun u T => ∃ A2 c2 l2, ∃ k : Nat, l2.length = k ∧ 6 ≤ k ∧ (k : Int) ≤ 9 * (N + size) + 20 ∧ u = .slice A2 k c2 ∧ T = own (.slice A2 k c2) 5 1 k (by8 l2) :: F) := by
  refine fun_intro Tryz.func28 rfl Tryz.ntmps28 (Nat.le_of_ble_eq_true rfl) ?_
  refine c_have (p := N ≤ c) (fun w h => (hr w h).cap) ?_
  intro hNc
  refine c_seq ?_
  refine c_region ?_
  refine s1 (p_assign rfl) rfl rfl rfl ?_
  refine s_nil ?_
  refine x_next ?_
  refine c_seq ?_
  refine c_region ?_
  refine s1 (p_build rfl (fun w => bd128 w)) rfl rfl rfl ?_
  refine s_step (st_box rfl) rfl rfl rfl ?_
  rintro _ _ ⟨g, rfl, rfl⟩
  refine s1 (p_assign rfl) rfl rfl rfl ?_
  refine s_nil ?_
  obtain ⟨T0, hT0, hp0⟩ := Wr.new 128 g F
  refine x_sat hp0 ?_
  refine x_next ?_
  refine c_seq ?_
  refine c_region ?_
  refine s1 (p_move rfl) rfl rfl rfl ?_
  refine s1 (p_max rfl rfl (show _ = size from by rw [itemax]; omega)) rfl rfl rfl ?_
  refine s1 (p_min rfl rfl (show _ = size from by rw [itemin]; omega)) rfl rfl rfl ?_
  refine s1 (p_assign rfl) rfl rfl rfl ?_
  refine s_nil ?_
  refine x_next ?_
  refine c_seq ?_
  refine c_seq ?_
  refine c_region ?_
  refine s1 (p_assign rfl) rfl rfl rfl ?_
  refine s_nil ?_
  refine x_next ?_
  refine c_block ?_
  refine c_loop (α := (Int) × (Nat) × (List As)) (fun gg => 0 ≤ gg.1 ∧ gg.1 ≤ N + size ∧ (gg.2.1 : Int) ≤ 71 * gg.1 ∧ Wr 128 g gg.2.1 F gg.2.2) (fun gg => ((N : Int) + 1 - gg.1).toNat) (fun gg => [(0, .slice A N c), (1, .int .i64 size), (2, .int .i64 ways), (7, .pointer (some ⟨g, 0, none⟩)), (8, .int .i64 gg.1)]) (fun gg => gg.2.2) ⟨0, 0, T0⟩ (⟨Int.le_refl 0, by dsimp only; omega, Int.le_refl 0, hT0⟩) ⟨rfl, rfl, rfl, rfl, rfl, trivial⟩ (f0) ?_
  rintro ⟨at_, j, T⟩ hI
  replace hI : 0 ≤ at_ ∧ at_ ≤ N + size ∧ (j : Int) ≤ 71 * at_ ∧ Wr 128 g j F T := hI
  obtain ⟨ha, hb, hj, hT⟩ := hI
  refine c_sub (L' := [(0, .slice A N c), (1, .int .i64 size), (2, .int .i64 ways), (7, .pointer (some ⟨g, 0, none⟩)), (8, .int .i64 at_)]) ⟨rfl, rfl, rfl, rfl, rfl, trivial⟩ ?_
  refine c_perm (T := T) f0 ?_
  refine c_cut (α := (Nat)) (fun gg => at_ = 0 ∨ at_ < N) (fun gg => [(0, .slice A N c), (1, .int .i64 size), (2, .int .i64 ways), (7, .pointer (some ⟨g, 0, none⟩)), (8, .int .i64 at_)]) (fun gg => T) ?_ ?_
  · refine c_seq ?_
    rcases (show at_ = 0 ∨ at_ ≠ 0 from by omega) with hq | hq
    · refine c_region ?_
      refine s1 (p_move rfl) rfl rfl rfl ?_
      refine s1 (pb_true (p_eq rfl rfl) (by omega)) rfl rfl rfl ?_
      refine s1 (p_move rfl) rfl rfl rfl ?_
      refine s_skip rfl rfl rfl rfl rfl ?_
      refine s_skip rfl rfl rfl rfl rfl ?_
      refine s_skip rfl rfl rfl rfl rfl ?_
      refine s_skip rfl rfl rfl rfl rfl ?_
      refine s1 (p_pickT rfl rfl) rfl rfl rfl ?_
      refine s_nil ?_
      refine x_next ?_
      refine c_true rfl ?_
      refine c_skip ?_
      exact x_cut 0 (.inl hq) ⟨rfl, rfl, rfl, rfl, rfl, trivial⟩ (f0)
    · refine c_region ?_
      refine s1 (p_move rfl) rfl rfl rfl ?_
      refine s1 (pb_false (p_eq rfl rfl) (by omega)) rfl rfl rfl ?_
      refine s1 (p_move rfl) rfl rfl rfl ?_
      refine sg1 (p_move rfl) rfl rfl rfl rfl ?_
      refine sg1 (p_move rfl) rfl rfl rfl rfl ?_
      refine sg1 (p_len Tryz.underlying23 rfl) rfl rfl rfl rfl ?_
      refine sg1 (p_lt rfl rfl) rfl rfl rfl rfl ?_
      refine s1 (p_pickF rfl rfl) rfl rfl rfl ?_
      refine s_nil ?_
      refine x_next ?_
      refine c_if rfl (fun h25 => ?_) (fun h25 => ?_)
      · refine c_skip ?_
        exact x_cut 0 (.inr h25) ⟨rfl, rfl, rfl, rfl, rfl, trivial⟩ (f0)
      · refine c_exit ?_
        refine x_exit_then ?_
        refine x_exit_then ?_
        refine x_exit_here ?_
        refine x_next ?_
        refine c_seq ?_
        obtain ⟨A1, c1, l1, hl1, rfl⟩ := hT
        refine c_region ?_
        refine s_step (st_buildSlice (e := 5) (size := 1) rfl (fun w => bs23_2 _ _ w) rfl (by omega)) rfl rfl rfl ?_
        rintro _ _ ⟨g2, rfl, rfl⟩
        refine s1 (p_move rfl) rfl rfl rfl ?_
        refine s1 (p_nilCheck rfl) rfl rfl rfl ?_
        refine s1 (p_fieldAddr (fun w => fa128_0 _ w) rfl) rfl rfl rfl ?_
        refine s1 (p_load m1 Tryz.underlying23 rfl rfl rfl) rfl rfl rfl ?_
        refine s_step (st_append (xs := by8 [120, 1]) (ys := by8 l1) Tryz.underlying23 inf5 rfl (by omega) rfl rfl (rd_own m2) (by8_one _) ⟨by omega, by omega⟩) rfl rfl rfl ?_
        rintro _ _ ⟨A2, c2, rfl, rfl⟩
        refine s1 (p_move rfl) rfl rfl rfl ?_
        refine s_step (st_call Tryz.func45 nm45 bo45 rfl (Adler_spec A N c l hl (by omega) (rd_tail (rd_tail (rd_tail hr))))) rfl rfl rfl ?_
        rintro _ _ ⟨rfl, x, rfl⟩
        refine s_step (st_call Tryz.func44 nm44 bo44 rfl (Four_spec x)) rfl rfl rfl ?_
        rintro _ _ ⟨g3, l3, hl3, rfl, rfl⟩
        refine s_perm f1 ?_
        refine s_step (st_append (ys := by8 l3) Tryz.underlying23 inf5 rfl (by omega) rfl rfl (rd_own m1) (by8_one _) ⟨by omega, by omega⟩) rfl rfl rfl ?_
        rintro _ _ ⟨A3, c3, rfl, rfl⟩
        refine s1 (p_assign rfl) rfl rfl rfl ?_
        refine s_nil ?_
        refine x_next ?_
        refine c_ret ?_
        refine x_sat (fun _ h => Sat.tail (Sat.tail (Sat.tail (Sat.perm (((f3).trans f3).trans f3) h)))) ?_
        refine x_done_one rfl rfl ⟨A3, c3, [120, 1] ++ l1 ++ l3, 2 + (j + 7) / 8 + 4, ?_, by omega, by omega, rfl, ?_⟩
        · simp [hl1, hl3]; omega
        · rw [by8_append, by8_append]
  · rintro uu hI
    replace hI : at_ = 0 ∨ at_ < N := hI
    refine c_sub (L' := [(0, .slice A N c), (1, .int .i64 size), (2, .int .i64 ways), (7, .pointer (some ⟨g, 0, none⟩)), (8, .int .i64 at_)]) ⟨rfl, rfl, rfl, rfl, rfl, trivial⟩ ?_
    refine c_perm (T := T) f0 ?_
    refine c_seq ?_
    refine c_block ?_
    refine c_seq ?_
    obtain ⟨to_, hto⟩ : ∃ t : Int, (if (N : Int) < at_ + size then (N : Int) else at_ + size) = t := ⟨_, rfl⟩
    have hto2 : to_ = min (at_ + size) (N : Int) := by rw [← hto]; exact itemin _ _
    refine c_region ?_
    refine s1 (p_move rfl) rfl rfl rfl ?_
    refine s1 (p_move rfl) rfl rfl rfl ?_
    refine s1 (p_add rfl rfl (w64 (by omega))) rfl rfl rfl ?_
    refine s1 (p_move rfl) rfl rfl rfl ?_
    refine s1 (p_len Tryz.underlying23 rfl) rfl rfl rfl ?_
    refine s1 (p_min rfl rfl hto) rfl rfl rfl ?_
    refine s1 (p_assign rfl) rfl rfl rfl ?_
    refine s_nil ?_
    refine x_next ?_
    refine c_seq ?_
    refine c_region ?_
    refine s1 (p_assign rfl) rfl rfl rfl ?_
    refine s_nil ?_
    refine x_next ?_
    refine c_cut (α := (Int)) (fun gg => True) (fun gg => [(0, .slice A N c), (1, .int .i64 size), (2, .int .i64 ways), (7, .pointer (some ⟨g, 0, none⟩)), (8, .int .i64 at_), (9, .int .i64 to_), (10, .int .i64 gg)]) (fun gg => T) ?_ ?_
    · refine c_seq ?_
      refine c_region ?_
      refine s1 (p_move rfl) rfl rfl rfl ?_
      refine s1 (p_move rfl) rfl rfl rfl ?_
      refine s1 (p_len Tryz.underlying23 rfl) rfl rfl rfl ?_
      refine s1 (p_eq rfl rfl) rfl rfl rfl ?_
      refine s_nil ?_
      refine x_next ?_
      refine c_if rfl (fun h38 => ?_) (fun h38 => ?_)
      · refine c_region ?_
        refine s1 (p_assign rfl) rfl rfl rfl ?_
        refine s_nil ?_
        exact x_cut 1 (True.intro) ⟨rfl, rfl, rfl, rfl, rfl, rfl, rfl, trivial⟩ (f0)
      · refine c_skip ?_
        exact x_cut 0 (True.intro) ⟨rfl, rfl, rfl, rfl, rfl, rfl, rfl, trivial⟩ (f0)
    · rintro q hI
      replace hI : True := hI
      refine c_sub (L' := [(0, .slice A N c), (1, .int .i64 size), (2, .int .i64 ways), (7, .pointer (some ⟨g, 0, none⟩)), (8, .int .i64 at_), (9, .int .i64 to_), (10, .int .i64 q)]) ⟨rfl, rfl, rfl, rfl, rfl, rfl, rfl, trivial⟩ ?_
      refine c_perm (T := T) f0 ?_
      refine c_seq ?_
      refine c_region ?_
      refine s1 (p_move rfl) rfl rfl rfl ?_
      refine s1 (p_move rfl) rfl rfl rfl ?_
      refine s_step (st_call Tryz.func41 nm41 bo41 rfl (one_spec g j q (by omega) hT)) rfl rfl rfl ?_
      rintro _ T1 ⟨rfl, hT1⟩
      refine s_nil ?_
      refine x_next ?_
      refine c_seq ?_
      refine c_seq ?_
      have hqq : 0 ≤ at_ / size := Int.ediv_nonneg ha (by omega)
      refine c_region ?_
      refine s1 (p_move rfl) rfl rfl rfl ?_
      refine s1 (p_move rfl) rfl rfl rfl ?_
      refine s1 (p_move rfl) rfl rfl rfl ?_
      refine s1 (p_quo rfl rfl (by omega) (q64 (by omega))) rfl rfl rfl ?_
      refine s1 (p_rem rfl rfl (by omega) (tm (by omega))) rfl rfl rfl ?_
      refine s1 (p_shr rfl rfl (by omega) rfl) rfl rfl rfl ?_
      refine s1 (p_and rfl rfl rfl) rfl rfl rfl ?_
      refine s1 (p_eq rfl rfl) rfl rfl rfl ?_
      refine s_nil ?_
      refine x_next ?_
      refine c_if rfl (fun h49 => ?_) (fun h49 => ?_)
      · refine c_seq ?_
        refine c_region ?_
        refine s1 (p_move rfl) rfl rfl rfl ?_
        refine s_step (st_call Tryz.func42 nm42 bo42 rfl (many_spec g (j + 1) 2 1 _ rfl (by omega) hT1)) rfl rfl rfl ?_
        rintro _ T2 ⟨rfl, hT2⟩
        refine s_nil ?_
        refine x_next ?_
        refine c_seq ?_
        refine c_region ?_
        refine s1 (p_move rfl) rfl rfl rfl ?_
        refine s1 (p_move rfl) rfl rfl rfl ?_
        refine s1 (p_move rfl) rfl rfl rfl ?_
        refine s1 (p_move rfl) rfl rfl rfl ?_
        refine s_step (st_buildSlice (e := 3) (size := 1) rfl (fun w => bs43_10 w) rfl (by omega)) rfl rfl rfl ?_
        rintro _ _ ⟨g2, rfl, rfl⟩
        obtain ⟨T3, hT3, hp3⟩ := hT2.push (own (.slice (some ⟨g2, 0, none⟩) 10 10) 3 1 10 (in64 [1, 2, 3, 4, 6, 8, 12, 17, 33, 65]))
        refine s_perm hp3 ?_
        refine s_step (st_call Tryz.func43 nm43 bo43 rfl (block_spec g (j + 1 + 2) A N c l hl (some ⟨g2, 0, none⟩) 10 10 [1, 2, 3, 4, 6, 8, 12, 17, 33, 65] rfl (by simp) at_ to_ (by omega) (by omega) (by omega) (by omega) (by omega) (rd_tail hr) (rd_own m0) (by omega) hT3)) rfl rfl rfl ?_
        rintro _ T4 ⟨rfl, k1, hk1, hT4⟩
        obtain ⟨T5, hT5, hp5⟩ := hT4.pop
        refine s_perm hp5 ?_
        refine s_sat drop0 ?_
        refine s_nil ?_
        refine x_next ?_
        refine c_exit ?_
        refine x_exit_then ?_
        refine x_exit_here ?_
        refine x_next ?_
        refine c_region ?_
        refine s1 (p_move rfl) rfl rfl rfl ?_
        refine s1 (p_move rfl) rfl rfl rfl ?_
        refine s1 (p_add rfl rfl (w64 (by omega))) rfl rfl rfl ?_
        refine s1 (p_assign rfl) rfl rfl rfl ?_
        refine s_nil ?_
        exact x_loop ⟨at_ + size, j + 1 + 2 + k1, T5⟩ (⟨by dsimp only; omega, by dsimp only; omega, by dsimp only; omega, hT5⟩) (by dsimp only; omega) ⟨rfl, rfl, rfl, rfl, rfl, trivial⟩ (f0)
      · refine c_skip ?_
        refine x_next ?_
        refine c_seq ?_
        refine c_region ?_
        refine s1 (p_move rfl) rfl rfl rfl ?_
        refine s_step (st_call Tryz.func42 nm42 bo42 rfl (many_spec g (j + 1) 2 0 _ rfl (by omega) hT1)) rfl rfl rfl ?_
        rintro _ T2 ⟨rfl, hT2⟩
        refine s_nil ?_
        refine x_next ?_
        refine c_seq ?_
        have hT2q := hT2
        obtain ⟨A1, c1, l1, hl1, rfl⟩ := hT2q
        refine c_region ?_
        refine s1 (p_move rfl) rfl rfl rfl ?_
        refine s1 (p_move rfl) rfl rfl rfl ?_
        refine s1 (p_nilCheck rfl) rfl rfl rfl ?_
        refine s1 (p_fieldAddr (fun w => fa128_1 _ w) rfl) rfl rfl rfl ?_
        refine s1 (p_load m0 Tryz.underlying3 rfl rfl rfl) rfl rfl rfl ?_
        refine s1 (p_rem rfl rfl (by omega) (tm (by omega))) rfl rfl rfl ?_
        refine s1 (p_sub rfl rfl (w64 (by omega))) rfl rfl rfl ?_
        refine s1 (p_rem rfl rfl (by omega) (tm (by omega))) rfl rfl rfl ?_
        refine s_step (st_call Tryz.func42 nm42 bo42 rfl (many_spec g (j + 1 + 2) ((8 - (j + 1 + 2) % 8) % 8) 0 _ (by omega) (by omega) hT2)) rfl rfl rfl ?_
        rintro _ T3 ⟨rfl, hT3⟩
        refine s_nil ?_
        refine x_next ?_
        refine c_seq ?_
        refine c_region ?_
        refine s1 (p_move rfl) rfl rfl rfl ?_
        refine s1 (p_move rfl) rfl rfl rfl ?_
        refine s1 (p_move rfl) rfl rfl rfl ?_
        refine s1 (p_sub rfl rfl (w64 (by omega))) rfl rfl rfl ?_
        refine s_step (st_call Tryz.func42 nm42 bo42 rfl (many_spec g _ 16 _ _ rfl (by omega) hT3)) rfl rfl rfl ?_
        rintro _ T4 ⟨rfl, hT4⟩
        refine s_nil ?_
        refine x_next ?_
        refine c_seq ?_
        refine c_region ?_
        refine s1 (p_move rfl) rfl rfl rfl ?_
        refine s1 (p_move rfl) rfl rfl rfl ?_
        refine s1 (p_move rfl) rfl rfl rfl ?_
        refine s1 (p_sub rfl rfl (w64 (by omega))) rfl rfl rfl ?_
        refine s1 (p_sub rfl rfl (w64 (by omega))) rfl rfl rfl ?_
        refine s_step (st_call Tryz.func42 nm42 bo42 rfl (many_spec g _ 16 _ _ rfl (by omega) hT4)) rfl rfl rfl ?_
        rintro _ T5 ⟨rfl, hT5⟩
        refine s_nil ?_
        refine x_next ?_
        refine c_seq ?_
        refine c_region ?_
        refine s1 (p_move rfl) rfl rfl rfl ?_
        refine s1 (p_move rfl) rfl rfl rfl ?_
        refine s1 (p_move rfl) rfl rfl rfl ?_
        refine s1 (p_slice (l := at_.toNat) (h := to_.toNat) Tryz.underlying23 sz5 rfl rfl rfl (by omega) (by omega) (by omega) (by omega)) rfl rfl rfl ?_
        refine s1 (p_len Tryz.underlying23 rfl) rfl rfl rfl ?_
        refine s1 (p_move rfl) rfl rfl rfl ?_
        refine s_nil ?_
        refine x_next ?_
        refine c_block ?_
        refine c_loop (α := (Nat) × (List As)) (fun gg => gg.1 ≤ to_.toNat - at_.toNat ∧ Wr 128 g (j + 1 + 2 + (8 - (j + 1 + 2) % 8) % 8 + 16 + 16 + 8 * gg.1) F gg.2) (fun gg => to_.toNat - at_.toNat - gg.1) (fun gg => [(0, .slice A N c), (1, .int .i64 size), (2, .int .i64 ways), (7, .pointer (some ⟨g, 0, none⟩)), (8, .int .i64 at_), (83, .slice (slA A c at_.toNat 1) (to_.toNat - at_.toNat) (c - at_.toNat)), (84, .int .i64 ((to_.toNat - at_.toNat : Nat) : Int)), (85, .int .i64 (gg.1 : Int))]) (fun gg => gg.2) ⟨0, T5⟩ (⟨Nat.zero_le _, hT5⟩) ⟨rfl, rfl, rfl, rfl, rfl, rfl, rfl, rfl, trivial⟩ (f0) ?_
        rintro ⟨i, T6⟩ hI
        replace hI : i ≤ to_.toNat - at_.toNat ∧ Wr 128 g (j + 1 + 2 + (8 - (j + 1 + 2) % 8) % 8 + 16 + 16 + 8 * i) F T6 := hI
        obtain ⟨hi, hT6⟩ := hI
        refine c_sub (L' := [(0, .slice A N c), (1, .int .i64 size), (2, .int .i64 ways), (7, .pointer (some ⟨g, 0, none⟩)), (8, .int .i64 at_), (83, .slice (slA A c at_.toNat 1) (to_.toNat - at_.toNat) (c - at_.toNat)), (84, .int .i64 ((to_.toNat - at_.toNat : Nat) : Int)), (85, .int .i64 (i : Int))]) ⟨rfl, rfl, rfl, rfl, rfl, rfl, rfl, rfl, trivial⟩ ?_
        refine c_perm (T := T6) f0 ?_
        refine c_seq ?_
        refine c_region ?_
        refine s1 (p_lt rfl rfl) rfl rfl rfl ?_
        refine s_nil ?_
        refine x_next ?_
        refine c_seq ?_
        refine c_if rfl (fun h86 => ?_) (fun h86 => ?_)
        · refine c_skip ?_
          refine x_next ?_
          refine c_seq ?_
          refine c_block ?_
          refine c_seq ?_
          refine c_region ?_
          refine s1 (p_index (kk := i) Tryz.underlying23 sz5 rfl rfl (rd_slice8 (lo := at_.toNat) (hi := to_.toNat) (fun w h => hr w (hT6.frame w h)) (by omega) (by omega)) (by omega) (by omega) (by omega)) rfl rfl rfl ?_
          refine s1 (p_loadE Tryz.underlying5 rfl rfl (rd_slice8 (lo := at_.toNat) (hi := to_.toNat) (fun w h => hr w (hT6.frame w h)) (by omega) (by omega)) (by8_get (by simp [hl]; omega))) rfl rfl rfl ?_
          refine s1 (p_assign rfl) rfl rfl rfl ?_
          refine s_nil ?_
          refine x_next ?_
          refine c_region ?_
          refine s1 (p_move rfl) rfl rfl rfl ?_
          refine s1 (p_move rfl) rfl rfl rfl ?_
          refine s1 (p_conv Tryz.underlying5 Tryz.underlying3 rfl rfl) rfl rfl rfl ?_
          refine s_step (st_call Tryz.func42 nm42 bo42 rfl (many_spec g _ 8 _ _ rfl (by omega) hT6)) rfl rfl rfl ?_
          rintro _ T7 ⟨rfl, hT7⟩
          refine s_nil ?_
          refine x_block ?_
          refine x_next ?_
          refine c_region ?_
          refine s1 (p_add rfl rfl (w64 (by omega))) rfl rfl rfl ?_
          refine s1 (p_move rfl) rfl rfl rfl ?_
          refine s_nil ?_
          exact x_loop ⟨i + 1, T7⟩ (⟨by dsimp only; omega, hT7⟩) (by dsimp only; omega) ⟨rfl, rfl, rfl, rfl, rfl, rfl, rfl, rfl, trivial⟩ (f0)
        · refine c_exit ?_
          refine x_exit_then ?_
          refine x_exit_then ?_
          refine x_exit_here ?_
          refine x_block ?_
          refine x_next ?_
          refine c_region ?_
          refine s1 (p_move rfl) rfl rfl rfl ?_
          refine s1 (p_move rfl) rfl rfl rfl ?_
          refine s1 (p_add rfl rfl (w64 (by omega))) rfl rfl rfl ?_
          refine s1 (p_assign rfl) rfl rfl rfl ?_
          refine s_nil ?_
          exact x_loop ⟨at_ + size, j + 1 + 2 + (8 - (j + 1 + 2) % 8) % 8 + 16 + 16 + 8 * i, T6⟩ (⟨by dsimp only; omega, by dsimp only; omega, by dsimp only; omega, hT6⟩) (by dsimp only; omega) ⟨rfl, rfl, rfl, rfl, rfl, trivial⟩ (f0)

end V
end Go.Proofs.YtaflcjoagfnhfaaGreatDoor
