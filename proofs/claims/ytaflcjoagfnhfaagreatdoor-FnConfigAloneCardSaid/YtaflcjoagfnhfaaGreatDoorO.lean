/- Walks: the law's palette, the dots of a palette, and a palette's numbers. -/
import Derived.Test.YtaflcjoagfnhfaaGreatDoorN
namespace Go.Proofs.YtaflcjoagfnhfaaGreatDoor
namespace V
open Go Go.Proofs

theorem modE {x N a : Nat} {e : Int} (he : e = (x : Int)) (h : e % (N : Int) = (a : Int)) : x % N = a := by
  subst he
  have : ((x % N : Nat) : Int) = (a : Int) := by rw [Int.natCast_emod]; exact h
  omega
/-- A colour: its red, green and blue. -/
abbrev RGB := Int × Int × Int
def c4 (x : RGB) : List Value := [.int .i64 (257 * x.1), .int .i64 (257 * x.2.1), .int .i64 (257 * x.2.2), .int .i64 65535]
def p4 (x : RGB) : List Value := [.int .u8 x.1, .int .u8 x.2.1, .int .u8 x.2.2, .int .u8 255]
def inB (x : RGB) : Prop := (0 ≤ x.1 ∧ x.1 ≤ 255) ∧ (0 ≤ x.2.1 ∧ x.2.1 ≤ 255) ∧ (0 ≤ x.2.2 ∧ x.2.2 ≤ 255)
def shadeAt (d : List Int) (k : Nat) : RGB :=
  if 0 < d.length then (d.getD (k % d.length) 0, d.getD ((k * 3 + 1) % d.length) 0, d.getD ((k * 5 + 2) % d.length) 0) else ((k : Int), 255 - (k : Int), (k : Int) * 7 % 256)
def shadesL (d : List Int) : List RGB := (List.range 256).map (shadeAt d)
theorem shadesL_length (d : List Int) : (shadesL d).length = 256 := by simp [shadesL]
theorem shadeAt_in {d : List Int} (hd : ∀ x ∈ d, 0 ≤ x ∧ x ≤ 255) {k : Nat} (hk : k < 256) : inB (shadeAt d k) := by
  have h := fun i => getD_all (p := fun x => 0 ≤ x ∧ x ≤ 255) hd (by omega) i
  unfold shadeAt inB
  split
  · exact ⟨h _, h _, h _⟩
  · dsimp only; omega
theorem shadesL_in {d : List Int} (hd : ∀ x ∈ d, 0 ≤ x ∧ x ≤ 255) : ∀ x ∈ shadesL d, inB x := by
  intro x hx
  simp only [shadesL, List.mem_map, List.mem_range] at hx
  obtain ⟨k, hk, rfl⟩ := hx
  exact shadeAt_in hd hk
theorem flat_take {α : Type} {l : List α} {f : α → List Value} {k : Nat} {x : α} (h : l[k]? = some x) : (l.take k).flatMap f ++ f x = (l.take (k + 1)).flatMap f := by
  rw [List.take_add_one, h]
  simp
theorem flat_get {α : Type} {f : α → List Value} {q : Nat} (hf : ∀ a, (f a).length = q) : ∀ {l : List α} {i : Nat} {x : α} {j : Nat} {u : Value}, l[i]? = some x → (f x)[j]? = some u → (l.flatMap f)[i * q + j]? = some u
  | [], _, _, _, _, h, _ => by simp at h
  | y :: r, 0, x, j, u, h, h2 => by
    simp only [List.getElem?_cons_zero, Option.some.injEq] at h
    subst h
    have hj : j < (f y).length := (List.getElem?_eq_some_iff.1 h2).1
    rw [List.flatMap_cons, Nat.zero_mul, Nat.zero_add, List.getElem?_append_left hj, h2]
  | y :: r, i + 1, x, j, u, h, h2 => by
    rw [List.getElem?_cons_succ] at h
    have := flat_get hf h h2
    rw [List.flatMap_cons, List.getElem?_append_right (by rw [hf, Nat.succ_mul]; omega), hf]
    rw [show (i + 1) * q + j - q = i * q + j by rw [Nat.succ_mul]; omega]
    exact this
theorem flat_one {α : Type} {l : List α} {f : α → List Value} (h : ∀ a, ∀ u ∈ f a, u.oneCell' = true) : ∀ u ∈ l.flatMap f, u.oneCell' = true := by
  intro u hu; rw [List.mem_flatMap] at hu; obtain ⟨a, _, ha⟩ := hu; exact h a u ha
theorem c4_one : ∀ a, ∀ u ∈ c4 a, u.oneCell' = true := by intro a u hu; simp only [c4, List.mem_cons, List.not_mem_nil, or_false] at hu; rcases hu with rfl | rfl | rfl | rfl <;> rfl
def colAt (x : RGB) (c : Nat) : Int := if c = 0 then 257 * x.1 else if c = 1 then 257 * x.2.1 else 257 * x.2.2
def colorsL (l : List RGB) : List Int := l.map (colAt · 0) ++ (l.map (colAt · 1) ++ l.map (colAt · 2))
theorem colorsL_length {l : List RGB} (h : l.length = 256) : (colorsL l).length = 768 := by simp [colorsL, h]
theorem colorsL_get {l : List RGB} (hl : l.length = 256) {c k : Nat} {x : RGB} (hc : c < 3) (hk : l[k]? = some x) : (colorsL l)[c * 256 + k]? = some (colAt x c) := by
  have hk' : k < 256 := hl ▸ (List.getElem?_eq_some_iff.1 hk).1
  unfold colorsL
  rcases (show c = 0 ∨ c = 1 ∨ c = 2 by omega) with rfl | rfl | rfl
  · rw [List.getElem?_append_left (by simp [hl]; omega)]; simp [hk]
  · rw [List.getElem?_append_right (by simp [hl]), List.getElem?_append_left (by simp [hl]; omega)]
    simp only [List.length_map, hl]
    rw [show 1 * 256 + k - 256 = k by omega]; simp [hk]
  · rw [List.getElem?_append_right (by simp [hl]; omega), List.getElem?_append_right (by simp [hl]; omega)]
    simp only [List.length_map, hl]
    rw [show 2 * 256 + k - 256 - 256 = k by omega]; simp [hk]
theorem in64_snoc {l : List Int} {k : Nat} {x : Int} (h : l[k]? = some x) : in64 (l.take k) ++ [Value.int .i64 x] = in64 (l.take (k + 1)) := by
  rw [List.take_add_one, h]; simp [in64]

set_option maxRecDepth 100000 in
theorem shades_spec {F : List As} (A : Option Addr) (N c : Nat) (l : List Int) (hl : l.length = N) (hN : N ≤ 1000000) (hby : ∀ x ∈ l, 0 ≤ x ∧ x ≤ 255) (hr : ∀ w, Sat w F → Reads w (.slice A N c) 1 N (by8 l)) :
    Fun Tryz.prog 9 [.slice A N c] (F) (fun u T => ∃ B cb, u = .slice B 256 cb ∧ T = own (.slice B 256 cb) 39 4 256 ((shadesL l).flatMap c4) :: F) := by
  refine fun_intro Tryz.func9 rfl Tryz.ntmps9 (Nat.le_of_ble_eq_true rfl) ?_
  refine c_have (p := N ≤ c) (fun w h => (hr w h).cap) ?_
  intro hNc
  refine c_seq ?_
  refine c_region ?_
  refine s1 (p_assign rfl) rfl rfl rfl ?_
  refine s_nil ?_
  refine x_next ?_
  refine c_seq ?_
  refine c_region ?_
  refine s_step (st_buildSlice (e := 39) (size := 4) rfl (fun w => bs35_0 w) rfl (by omega)) rfl rfl rfl ?_
  rintro _ _ ⟨g1, rfl, rfl⟩
  refine s1 (p_assign rfl) rfl rfl rfl ?_
  refine s_nil ?_
  refine x_next ?_
  refine c_seq ?_
  refine c_seq ?_
  refine c_region ?_
  refine s1 (p_move rfl) rfl rfl rfl ?_
  refine s_nil ?_
  refine x_next ?_
  refine c_block ?_
  refine c_loop (α := (Option Addr) × (Nat) × (Nat)) (fun gg => gg.2.1 ≤ 256) (fun gg => 256 - gg.2.1) (fun gg => [(0, .slice A N c), (3, .slice gg.1 gg.2.1 gg.2.2), (9, .int .i64 (gg.2.1 : Int))]) (fun gg => own (.slice gg.1 gg.2.1 gg.2.2) 39 4 gg.2.1 (((shadesL l).take gg.2.1).flatMap c4) :: F) ⟨_, 0, 0⟩ (Nat.zero_le _) ⟨rfl, rfl, rfl, trivial⟩ (f0) ?_
  rintro ⟨B, k, cb⟩ hI
  replace hI : k ≤ 256 := hI
  have hk := hI
  refine c_sub (L' := [(0, .slice A N c), (3, .slice B k cb), (9, .int .i64 (k : Int))]) ⟨rfl, rfl, rfl, trivial⟩ ?_
  refine c_perm (T := own (.slice B k cb) 39 4 k (((shadesL l).take k).flatMap c4) :: F) f0 ?_
  refine c_seq ?_
  refine c_region ?_
  refine s1 (p_lt rfl rfl) rfl rfl rfl ?_
  refine s_nil ?_
  refine x_next ?_
  refine c_seq ?_
  refine c_if rfl (fun h10 => ?_) (fun h10 => ?_)
  · refine c_skip ?_
    refine x_next ?_
    refine c_seq ?_
    refine c_block ?_
    refine c_seq ?_
    refine c_region ?_
    refine s1 (p_move rfl) rfl rfl rfl ?_
    refine s1 (p_assign rfl) rfl rfl rfl ?_
    refine s_nil ?_
    refine x_next ?_
    refine c_seq ?_
    refine c_region ?_
    refine s1 (p_move rfl) rfl rfl rfl ?_
    refine s1 (p_move rfl) rfl rfl rfl ?_
    refine s1 (p_sub rfl rfl (w64 (by omega))) rfl rfl rfl ?_
    refine s1 (p_move rfl) rfl rfl rfl ?_
    refine s1 (p_mul rfl rfl (w64 (by omega))) rfl rfl rfl ?_
    refine s1 (p_rem rfl rfl (by omega) (tm (by omega))) rfl rfl rfl ?_
    refine s1 (p_assign rfl) rfl rfl rfl ?_
    refine s1 (p_assign rfl) rfl rfl rfl ?_
    refine s1 (p_assign rfl) rfl rfl rfl ?_
    refine s_nil ?_
    refine x_next ?_
    refine c_cut (α := (Int) × (Int) × (Int)) (fun gg => (gg.1, gg.2.1, gg.2.2) = shadeAt l k) (fun gg => [(0, .slice A N c), (3, .slice B k cb), (9, .int .i64 (k : Int)), (5, .int .i64 gg.1), (6, .int .i64 gg.2.1), (7, .int .i64 gg.2.2)]) (fun gg => own (.slice B k cb) 39 4 k (((shadesL l).take k).flatMap c4) :: F) ?_ ?_
    · refine c_seq ?_
      refine c_region ?_
      refine s1 (p_move rfl) rfl rfl rfl ?_
      refine s1 (p_len Tryz.underlying23 rfl) rfl rfl rfl ?_
      refine s1 (p_gt rfl rfl) rfl rfl rfl ?_
      refine s_nil ?_
      refine x_next ?_
      refine c_if rfl (fun h20 => ?_) (fun h20 => ?_)
      · obtain ⟨a, ha, ha2⟩ := modN (x := (k : Int)) (N := N) (by omega) (by omega)
        obtain ⟨b, hb, hb2⟩ := modN (x := (k : Int) * 3 + 1) (N := N) (by omega) (by omega)
        obtain ⟨d, hd, hd2⟩ := modN (x := (k : Int) * 5 + 2) (N := N) (by omega) (by omega)
        refine c_draw 31 (own (.slice B k cb) 39 4 k (((shadesL l).take k).flatMap c4) :: F) mixed ?_
        refine d_take 0 rfl (p_move rfl) rfl rfl rfl (by kernel_rfl) (fun _ h => h) ?_
        refine d_take 1 rfl (p_move rfl) rfl rfl rfl (by kernel_rfl) (fun _ h => h) ?_
        refine d_take 2 rfl (p_move rfl) rfl rfl rfl (by kernel_rfl) (fun _ h => h) ?_
        refine d_take 3 rfl (p_len Tryz.underlying23 rfl) rfl rfl rfl (by kernel_rfl) (fun _ h => h) ?_
        refine d_take 4 rfl (p_rem rfl rfl (by omega) ((tm (by omega)).trans ha)) rfl rfl rfl (by kernel_rfl) (fun _ h => h) ?_
        refine d_take 5 rfl (p_index (kk := a) Tryz.underlying23 sz5 rfl rfl (rd_tail hr) (by omega) (by omega) (by omega)) rfl rfl rfl (by kernel_rfl) (fun _ h => h) ?_
        refine d_take 6 rfl (p_loadE Tryz.underlying5 rfl rfl (rd_tail hr) (by8_get (by omega))) rfl rfl rfl (by kernel_rfl) (fun _ h => h) ?_
        refine d_take 7 rfl (p_conv Tryz.underlying5 Tryz.underlying3 rfl (w64 (by have := getD_all (p := fun x => 0 ≤ x ∧ x ≤ 255) hby (by omega) a; omega))) rfl rfl rfl (by kernel_rfl) (fun _ h => h) ?_
        refine d_take 8 rfl (p_move rfl) rfl rfl rfl (by kernel_rfl) (fun _ h => h) ?_
        refine d_take 9 rfl (p_move rfl) rfl rfl rfl (by kernel_rfl) (fun _ h => h) ?_
        refine d_take 10 rfl (p_mul rfl rfl (w64 (by omega))) rfl rfl rfl (by kernel_rfl) (fun _ h => h) ?_
        refine d_take 11 rfl (p_add rfl rfl (w64 (by omega))) rfl rfl rfl (by kernel_rfl) (fun _ h => h) ?_
        refine d_take 12 rfl (p_move rfl) rfl rfl rfl (by kernel_rfl) (fun _ h => h) ?_
        refine d_take 13 rfl (p_len Tryz.underlying23 rfl) rfl rfl rfl (by kernel_rfl) (fun _ h => h) ?_
        refine d_take 14 rfl (p_rem rfl rfl (by omega) ((tm (by omega)).trans hb)) rfl rfl rfl (by kernel_rfl) (fun _ h => h) ?_
        refine d_take 15 rfl (p_index (kk := b) Tryz.underlying23 sz5 rfl rfl (rd_tail hr) (by omega) (by omega) (by omega)) rfl rfl rfl (by kernel_rfl) (fun _ h => h) ?_
        refine d_take 16 rfl (p_loadE Tryz.underlying5 rfl rfl (rd_tail hr) (by8_get (by omega))) rfl rfl rfl (by kernel_rfl) (fun _ h => h) ?_
        refine d_take 17 rfl (p_conv Tryz.underlying5 Tryz.underlying3 rfl (w64 (by have := getD_all (p := fun x => 0 ≤ x ∧ x ≤ 255) hby (by omega) b; omega))) rfl rfl rfl (by kernel_rfl) (fun _ h => h) ?_
        refine d_take 18 rfl (p_move rfl) rfl rfl rfl (by kernel_rfl) (fun _ h => h) ?_
        refine d_take 19 rfl (p_move rfl) rfl rfl rfl (by kernel_rfl) (fun _ h => h) ?_
        refine d_take 20 rfl (p_mul rfl rfl (w64 (by omega))) rfl rfl rfl (by kernel_rfl) (fun _ h => h) ?_
        refine d_take 21 rfl (p_add rfl rfl (w64 (by omega))) rfl rfl rfl (by kernel_rfl) (fun _ h => h) ?_
        refine d_take 22 rfl (p_move rfl) rfl rfl rfl (by kernel_rfl) (fun _ h => h) ?_
        refine d_take 23 rfl (p_len Tryz.underlying23 rfl) rfl rfl rfl (by kernel_rfl) (fun _ h => h) ?_
        refine d_take 24 rfl (p_rem rfl rfl (by omega) ((tm (by omega)).trans hd)) rfl rfl rfl (by kernel_rfl) (fun _ h => h) ?_
        refine d_take 25 rfl (p_index (kk := d) Tryz.underlying23 sz5 rfl rfl (rd_tail hr) (by omega) (by omega) (by omega)) rfl rfl rfl (by kernel_rfl) (fun _ h => h) ?_
        refine d_take 26 rfl (p_loadE Tryz.underlying5 rfl rfl (rd_tail hr) (by8_get (by omega))) rfl rfl rfl (by kernel_rfl) (fun _ h => h) ?_
        refine d_take 27 rfl (p_conv Tryz.underlying5 Tryz.underlying3 rfl (w64 (by have := getD_all (p := fun x => 0 ≤ x ∧ x ≤ 255) hby (by omega) d; omega))) rfl rfl rfl (by kernel_rfl) (fun _ h => h) ?_
        refine d_take 28 rfl (p_assign rfl) rfl rfl rfl (by kernel_rfl) (fun _ h => h) ?_
        refine d_take 29 rfl (p_assign rfl) rfl rfl rfl (by kernel_rfl) (fun _ h => h) ?_
        refine d_take 30 rfl (p_assign rfl) rfl rfl rfl (by kernel_rfl) (fun _ h => h) ?_
        refine d_done (by kernel_rfl) ?_
        exact x_cut ⟨l.getD a 0, l.getD b 0, l.getD d 0⟩ (by show (l.getD a 0, l.getD b 0, l.getD d 0) = _; unfold shadeAt; rw [if_pos (by omega), hl, modE rfl ha, modE (by omega) hb, modE (by omega) hd]) ⟨rfl, rfl, rfl, rfl, rfl, rfl, trivial⟩ (f0)
      · refine c_skip ?_
        exact x_cut ⟨(k : Int), 255 - (k : Int), (k : Int) * 7 % 256⟩ (by show ((k : Int), 255 - (k : Int), (k : Int) * 7 % 256) = _; unfold shadeAt; rw [if_neg (show ¬ 0 < l.length by omega)]) ⟨rfl, rfl, rfl, rfl, rfl, rfl, trivial⟩ (f0)
    · rintro ⟨r, g, b⟩ hI
      replace hI : (r, g, b) = shadeAt l k := hI
      have hs := shadeAt_in hby (show k < 256 by omega)
      rw [← hI] at hs
      have hx : (shadesL l)[k]? = some (r, g, b) := by rw [hI]; unfold shadesL; rw [List.getElem?_map, List.getElem?_range (by omega)]; rfl
      obtain ⟨hr0, hg0, hb0⟩ := hs
      dsimp only at hr0 hg0 hb0
      refine c_sub (L' := [(0, .slice A N c), (3, .slice B k cb), (9, .int .i64 (k : Int)), (5, .int .i64 r), (6, .int .i64 g), (7, .int .i64 b)]) ⟨rfl, rfl, rfl, rfl, rfl, rfl, trivial⟩ ?_
      refine c_perm (T := own (.slice B k cb) 39 4 k (((shadesL l).take k).flatMap c4) :: F) f0 ?_
      refine c_region ?_
      refine s1 (p_move rfl) rfl rfl rfl ?_
      refine s1 (p_move rfl) rfl rfl rfl ?_
      refine s1 (p_mul rfl rfl (w64 (by omega))) rfl rfl rfl ?_
      refine s1 (p_move rfl) rfl rfl rfl ?_
      refine s1 (p_mul rfl rfl (w64 (by omega))) rfl rfl rfl ?_
      refine s1 (p_move rfl) rfl rfl rfl ?_
      refine s1 (p_mul rfl rfl (w64 (by omega))) rfl rfl rfl ?_
      refine s1 (p_build rfl (fun w => bd39_4 _ _ _ _ w)) rfl rfl rfl ?_
      refine s_step (st_buildSlice (e := 39) (size := 4) rfl (fun w => bs35_1 _ _ _ _ w) rfl (by omega)) rfl rfl rfl ?_
      rintro _ _ ⟨g2, rfl, rfl⟩
      refine s_perm f1 ?_
      refine s_step (st_append (xs := ((shadesL l).take k).flatMap c4) Tryz.underlying35 inf39 rfl (by omega) rfl rfl (rd_own m1) (by simp [Value.oneCell']) ⟨by omega, by omega⟩) rfl rfl rfl ?_
      rintro _ _ ⟨A2, c2, rfl, rfl⟩
      refine s_perm f1 ?_
      refine s_sat drop0 ?_
      rw [show ((shadesL l).take k).flatMap c4 ++ [Value.int .i64 (257 * r), .int .i64 (257 * g), .int .i64 (257 * b), .int .i64 65535] = ((shadesL l).take (k + 1)).flatMap c4 from flat_take hx]
      refine s1 (p_assign rfl) rfl rfl rfl ?_
      refine s_nil ?_
      refine x_block ?_
      refine x_next ?_
      refine c_region ?_
      refine s1 (p_add rfl rfl (w64 (by omega))) rfl rfl rfl ?_
      refine s1 (p_move rfl) rfl rfl rfl ?_
      refine s_nil ?_
      exact x_loop ⟨A2, k + 1, c2⟩ (by first | omega | (dsimp only; omega)) (by first | omega | (dsimp only; omega)) ⟨rfl, rfl, rfl, trivial⟩ (f0)
  · refine c_exit ?_
    refine x_exit_then ?_
    refine x_exit_then ?_
    refine x_exit_here ?_
    refine x_next ?_
    refine c_seq ?_
    refine c_region ?_
    refine s1 (p_move rfl) rfl rfl rfl ?_
    refine s1 (p_assign rfl) rfl rfl rfl ?_
    refine s_nil ?_
    refine x_next ?_
    refine c_ret ?_
    obtain rfl : k = 256 := by omega
    exact x_done_one rfl rfl ⟨B, cb, rfl, by rw [List.take_of_length_le (by simp [shadesL_length])]⟩

set_option maxRecDepth 100000 in
theorem dots_spec {F : List As} (A : Option Addr) (N c : Nat) (l : List RGB) (hl : l.length = N) (hN : N ≤ 1000000) (hby : ∀ x ∈ l, inB x) (hr : ∀ w, Sat w F → Reads w (.slice A N c) 4 N (l.flatMap p4)) :
    Fun Tryz.prog 10 [.slice A N c] (F) (fun u T => ∃ B cb, u = .slice B N cb ∧ T = own (.slice B N cb) 39 4 N (l.flatMap c4) :: F) := by
  refine fun_intro Tryz.func10 rfl Tryz.ntmps10 (Nat.le_of_ble_eq_true rfl) ?_
  refine c_have (p := N ≤ c) (fun w h => (hr w h).cap) ?_
  intro hNc
  refine c_seq ?_
  refine c_region ?_
  refine s1 (p_assign rfl) rfl rfl rfl ?_
  refine s_nil ?_
  refine x_next ?_
  refine c_seq ?_
  refine c_region ?_
  refine s_step (st_buildSlice (e := 39) (size := 4) rfl (fun w => bs35_0 w) rfl (by omega)) rfl rfl rfl ?_
  rintro _ _ ⟨g1, rfl, rfl⟩
  refine s1 (p_assign rfl) rfl rfl rfl ?_
  refine s_nil ?_
  refine x_next ?_
  refine c_seq ?_
  refine c_seq ?_
  refine c_region ?_
  refine s1 (p_move rfl) rfl rfl rfl ?_
  refine s1 (p_len Tryz.underlying26 rfl) rfl rfl rfl ?_
  refine s1 (p_move rfl) rfl rfl rfl ?_
  refine s_nil ?_
  refine x_next ?_
  refine c_block ?_
  refine c_loop (α := (Option Addr) × (Nat) × (Nat)) (fun gg => gg.2.1 ≤ N) (fun gg => N - gg.2.1) (fun gg => [(0, .slice A N c), (3, .slice gg.1 gg.2.1 gg.2.2), (7, .slice A N c), (8, .int .i64 (N : Int)), (9, .int .i64 (gg.2.1 : Int))]) (fun gg => own (.slice gg.1 gg.2.1 gg.2.2) 39 4 gg.2.1 ((l.take gg.2.1).flatMap c4) :: F) ⟨_, 0, 0⟩ (Nat.zero_le _) ⟨rfl, rfl, rfl, rfl, rfl, trivial⟩ (f0) ?_
  rintro ⟨B, k, cb⟩ hI
  replace hI : k ≤ N := hI
  have hk := hI
  refine c_sub (L' := [(0, .slice A N c), (3, .slice B k cb), (7, .slice A N c), (8, .int .i64 (N : Int)), (9, .int .i64 (k : Int))]) ⟨rfl, rfl, rfl, rfl, rfl, trivial⟩ ?_
  refine c_perm (T := own (.slice B k cb) 39 4 k ((l.take k).flatMap c4) :: F) f0 ?_
  refine c_seq ?_
  refine c_region ?_
  refine s1 (p_lt rfl rfl) rfl rfl rfl ?_
  refine s_nil ?_
  refine x_next ?_
  refine c_seq ?_
  refine c_if rfl (fun h10 => ?_) (fun h10 => ?_)
  · refine c_skip ?_
    refine x_next ?_
    refine c_seq ?_
    refine c_block ?_
    refine c_seq ?_
    obtain ⟨x, hx⟩ : ∃ x, l[k]? = some x := ⟨_, List.getElem?_eq_getElem (by omega)⟩
    have hs := hby x (List.mem_of_getElem? hx)
    obtain ⟨hr0, hg0, hb0⟩ := hs
    refine c_region ?_
    refine s1 (p_index (kk := k * 4) Tryz.underlying26 sz31 rfl rfl (rd_tail hr) (by omega) (by omega) (by omega)) rfl rfl rfl ?_
    refine s1 (p_loadEA (cs := p4 x) Tryz.underlying31 rfl sz31 rfl (rd_tail hr) rfl (by omega) (fun j u hu => flat_get (f := p4) (q := 4) (fun _ => rfl) hx hu)) rfl rfl rfl ?_
    refine s_step (st_alloc ze31) rfl rfl rfl ?_
    rintro _ _ ⟨gd, rfl, rfl⟩
    refine s_step0 (st_storeA rfl rfl rfl sz31 rfl) rfl rfl ?_
    rintro _ _ rfl
    refine s_nil ?_
    refine x_next ?_
    refine c_region ?_
    refine s1 (p_move rfl) rfl rfl rfl ?_
    refine s1 (p_fieldAddr (fun w => fa31_0 _ w) rfl) rfl rfl rfl ?_
    refine s1 (p_load m0 Tryz.underlying5 rfl rfl rfl) rfl rfl rfl ?_
    refine s1 (p_conv Tryz.underlying5 Tryz.underlying3 rfl (w64 (by omega))) rfl rfl rfl ?_
    refine s1 (p_mul rfl rfl (w64 (by omega))) rfl rfl rfl ?_
    refine s1 (p_fieldAddr (fun w => fa31_1 _ w) rfl) rfl rfl rfl ?_
    refine s1 (p_load m0 Tryz.underlying5 rfl rfl rfl) rfl rfl rfl ?_
    refine s1 (p_conv Tryz.underlying5 Tryz.underlying3 rfl (w64 (by omega))) rfl rfl rfl ?_
    refine s1 (p_mul rfl rfl (w64 (by omega))) rfl rfl rfl ?_
    refine s1 (p_fieldAddr (fun w => fa31_2 _ w) rfl) rfl rfl rfl ?_
    refine s1 (p_load m0 Tryz.underlying5 rfl rfl rfl) rfl rfl rfl ?_
    refine s1 (p_conv Tryz.underlying5 Tryz.underlying3 rfl (w64 (by omega))) rfl rfl rfl ?_
    refine s1 (p_mul rfl rfl (w64 (by omega))) rfl rfl rfl ?_
    refine s1 (p_fieldAddr (fun w => fa31_3 _ w) rfl) rfl rfl rfl ?_
    refine s1 (p_load m0 Tryz.underlying5 rfl rfl rfl) rfl rfl rfl ?_
    refine s1 (p_conv Tryz.underlying5 Tryz.underlying3 rfl (w64 (by omega))) rfl rfl rfl ?_
    refine s1 (p_mul rfl rfl (w64 (by omega))) rfl rfl rfl ?_
    refine s1 (p_build rfl (fun w => bd39_4 _ _ _ _ w)) rfl rfl rfl ?_
    refine s_step (st_buildSlice (e := 39) (size := 4) rfl (fun w => bs35_1 _ _ _ _ w) rfl (by omega)) rfl rfl rfl ?_
    rintro _ _ ⟨g2, rfl, rfl⟩
    refine s_perm f2 ?_
    refine s_step (st_append (xs := (l.take k).flatMap c4) Tryz.underlying35 inf39 rfl (by omega) rfl rfl (rd_own m1) (by simp [Value.oneCell']) ⟨by omega, by omega⟩) rfl rfl rfl ?_
    rintro _ _ ⟨A2, c2, rfl, rfl⟩
    refine s_perm f1 ?_
    refine s_sat drop0 ?_
    refine s_perm f1 ?_
    refine s_sat drop0 ?_
    rw [show (l.take k).flatMap c4 ++ [Value.int .i64 (257 * x.1), .int .i64 (257 * x.2.1), .int .i64 (257 * x.2.2), .int .i64 (257 * 255)] = (l.take (k + 1)).flatMap c4 from flat_take hx]
    refine s1 (p_assign rfl) rfl rfl rfl ?_
    refine s_nil ?_
    refine x_block ?_
    refine x_next ?_
    refine c_region ?_
    refine s1 (p_add rfl rfl (w64 (by omega))) rfl rfl rfl ?_
    refine s1 (p_move rfl) rfl rfl rfl ?_
    refine s_nil ?_
    exact x_loop ⟨A2, k + 1, c2⟩ (by first | omega | (dsimp only; omega)) (by first | omega | (dsimp only; omega)) ⟨rfl, rfl, rfl, rfl, rfl, trivial⟩ (f0)
  · refine c_exit ?_
    refine x_exit_then ?_
    refine x_exit_then ?_
    refine x_exit_here ?_
    refine x_next ?_
    refine c_seq ?_
    refine c_region ?_
    refine s1 (p_move rfl) rfl rfl rfl ?_
    refine s1 (p_assign rfl) rfl rfl rfl ?_
    refine s_nil ?_
    refine x_next ?_
    refine c_ret ?_
    obtain rfl : k = N := by omega
    exact x_done_one rfl rfl ⟨B, cb, rfl, by rw [List.take_of_length_le (by omega)]⟩

set_option maxRecDepth 100000 in
theorem colors_spec {F : List As} (A : Option Addr) (c : Nat) (l : List RGB) (hl : l.length = 256) (hr : ∀ w, Sat w F → Reads w (.slice A 256 c) 4 256 (l.flatMap c4)) :
    Fun Tryz.prog 23 [.slice A 256 c, .int .i64 8] (F) (fun u T => ∃ B cb, u = .slice B 768 cb ∧ T = own (.slice B 768 cb) 3 1 768 (in64 (colorsL l)) :: F) := by
  refine fun_intro Tryz.func23 rfl Tryz.ntmps23 (Nat.le_of_ble_eq_true rfl) ?_
  refine c_have (p := 256 ≤ c) (fun w h => (hr w h).cap) ?_
  intro hNc
  refine c_seq ?_
  refine c_region ?_
  refine s1 (p_assign rfl) rfl rfl rfl ?_
  refine s_nil ?_
  refine x_next ?_
  refine c_seq ?_
  refine c_region ?_
  refine s_step (st_buildSlice (e := 3) (size := 1) rfl (fun w => bs43_0 w) rfl (by omega)) rfl rfl rfl ?_
  rintro _ _ ⟨g1, rfl, rfl⟩
  refine s1 (p_assign rfl) rfl rfl rfl ?_
  refine s_nil ?_
  refine x_next ?_
  refine c_seq ?_
  refine c_seq ?_
  refine c_region ?_
  refine s1 (p_move rfl) rfl rfl rfl ?_
  refine s_nil ?_
  refine x_next ?_
  refine c_block ?_
  refine c_loop (α := (Option Addr) × (Nat) × (Nat)) (fun gg => gg.2.1 ≤ 3) (fun gg => 3 - gg.2.1) (fun gg => [(0, .slice A 256 c), (1, .int .i64 8), (5, .slice gg.1 (gg.2.1 * 256) gg.2.2), (10, .int .i64 (gg.2.1 : Int))]) (fun gg => own (.slice gg.1 (gg.2.1 * 256) gg.2.2) 3 1 (gg.2.1 * 256) (in64 ((colorsL l).take (gg.2.1 * 256))) :: F) ⟨_, 0, 0⟩ (Nat.zero_le _) ⟨rfl, rfl, rfl, rfl, trivial⟩ (f0) ?_
  rintro ⟨B, q, cb⟩ hI
  replace hI : q ≤ 3 := hI
  have hq := hI
  refine c_sub (L' := [(0, .slice A 256 c), (1, .int .i64 8), (5, .slice B (q * 256) cb), (10, .int .i64 (q : Int))]) ⟨rfl, rfl, rfl, rfl, trivial⟩ ?_
  refine c_perm (T := own (.slice B (q * 256) cb) 3 1 (q * 256) (in64 ((colorsL l).take (q * 256))) :: F) f0 ?_
  refine c_seq ?_
  refine c_region ?_
  refine s1 (p_lt rfl rfl) rfl rfl rfl ?_
  refine s_nil ?_
  refine x_next ?_
  refine c_seq ?_
  refine c_if rfl (fun h11 => ?_) (fun h11 => ?_)
  · refine c_skip ?_
    refine x_next ?_
    refine c_seq ?_
    refine c_block ?_
    refine c_seq ?_
    refine c_region ?_
    refine s1 (p_move rfl) rfl rfl rfl ?_
    refine s1 (p_assign rfl) rfl rfl rfl ?_
    refine s_nil ?_
    refine x_next ?_
    refine c_seq ?_
    refine c_region ?_
    refine s1 (p_move rfl) rfl rfl rfl ?_
    refine s1 (p_shl rfl rfl (by omega) (show _ = (256 : Int) from rfl)) rfl rfl rfl ?_
    refine s1 (p_move rfl) rfl rfl rfl ?_
    refine s_nil ?_
    refine x_next ?_
    refine c_block ?_
    refine c_loop (α := (Option Addr) × (Nat) × (Nat)) (fun gg => gg.2.1 ≤ 256) (fun gg => 256 - gg.2.1) (fun gg => [(0, .slice A 256 c), (1, .int .i64 8), (5, .slice gg.1 (q * 256 + gg.2.1) gg.2.2), (10, .int .i64 (q : Int)), (6, .int .i64 (q : Int)), (14, .int .i64 256), (15, .int .i64 (gg.2.1 : Int))]) (fun gg => own (.slice gg.1 (q * 256 + gg.2.1) gg.2.2) 3 1 (q * 256 + gg.2.1) (in64 ((colorsL l).take (q * 256 + gg.2.1))) :: F) ⟨B, 0, cb⟩ (Nat.zero_le _) ⟨rfl, rfl, rfl, rfl, rfl, rfl, rfl, trivial⟩ (f0) ?_
    rintro ⟨B, k, cb⟩ hI
    replace hI : k ≤ 256 := hI
    have hk := hI
    refine c_sub (L' := [(0, .slice A 256 c), (1, .int .i64 8), (5, .slice B (q * 256 + k) cb), (10, .int .i64 (q : Int)), (6, .int .i64 (q : Int)), (14, .int .i64 256), (15, .int .i64 (k : Int))]) ⟨rfl, rfl, rfl, rfl, rfl, rfl, rfl, trivial⟩ ?_
    refine c_perm (T := own (.slice B (q * 256 + k) cb) 3 1 (q * 256 + k) (in64 ((colorsL l).take (q * 256 + k))) :: F) f0 ?_
    refine c_seq ?_
    refine c_region ?_
    refine s1 (p_lt rfl rfl) rfl rfl rfl ?_
    refine s_nil ?_
    refine x_next ?_
    refine c_seq ?_
    refine c_if rfl (fun h16 => ?_) (fun h16 => ?_)
    · refine c_skip ?_
      refine x_next ?_
      refine c_seq ?_
      refine c_block ?_
      refine c_seq ?_
      refine c_region ?_
      refine s1 (p_move rfl) rfl rfl rfl ?_
      refine s1 (p_assign rfl) rfl rfl rfl ?_
      refine s_nil ?_
      refine x_next ?_
      refine c_seq ?_
      obtain ⟨x, hx⟩ : ∃ x, l[k]? = some x := ⟨_, List.getElem?_eq_getElem (by omega)⟩
      refine c_region ?_
      refine s1 (p_build rfl (fun w => bd39 w)) rfl rfl rfl ?_
      refine s_step (st_alloc ze39) rfl rfl rfl ?_
      rintro _ _ ⟨gd, rfl, rfl⟩
      refine s_step0 (st_storeA rfl rfl rfl sz39 rfl) rfl rfl ?_
      rintro _ _ rfl
      refine s_nil ?_
      refine x_next ?_
      refine c_seq ?_
      refine c_seq ?_
      refine c_region ?_
      refine s1 (p_move rfl) rfl rfl rfl ?_
      refine s1 (p_move rfl) rfl rfl rfl ?_
      refine s1 (p_len Tryz.underlying35 rfl) rfl rfl rfl ?_
      refine s1 (pb_true (p_lt rfl rfl) (by omega)) rfl rfl rfl ?_
      refine s_nil ?_
      refine x_next ?_
      refine c_true rfl ?_
      refine c_region ?_
      refine s1 (p_move rfl) rfl rfl rfl ?_
      refine s1 (p_move rfl) rfl rfl rfl ?_
      refine s1 (p_index (kk := k * 4) Tryz.underlying35 sz39 rfl rfl (rd_tail (rd_tail hr)) (by omega) (by omega) (by omega)) rfl rfl rfl ?_
      refine s1 (p_loadEA (cs := c4 x) Tryz.underlying39 rfl sz39 rfl (rd_tail (rd_tail hr)) rfl (by omega) (fun j u hu => flat_get (f := c4) (q := 4) (fun _ => rfl) hx hu)) rfl rfl rfl ?_
      refine s_step0 (st_storeA rfl rfl rfl sz39 rfl) rfl rfl ?_
      rintro _ _ rfl
      refine s_nil ?_
      refine x_next ?_
      refine c_region ?_
      refine s1 (p_move rfl) rfl rfl rfl ?_
      refine s1 (p_fieldAddr (fun w => fa39_0 _ w) rfl) rfl rfl rfl ?_
      refine s1 (p_load m0 Tryz.underlying3 rfl rfl rfl) rfl rfl rfl ?_
      refine s1 (p_fieldAddr (fun w => fa39_1 _ w) rfl) rfl rfl rfl ?_
      refine s1 (p_load m0 Tryz.underlying3 rfl rfl rfl) rfl rfl rfl ?_
      refine s1 (p_fieldAddr (fun w => fa39_2 _ w) rfl) rfl rfl rfl ?_
      refine s1 (p_load m0 Tryz.underlying3 rfl rfl rfl) rfl rfl rfl ?_
      refine s_step (st_buildSlice (e := 3) (size := 1) rfl (fun w => bs43_3 _ _ _ w) rfl (by omega)) rfl rfl rfl ?_
      rintro _ _ ⟨g2, rfl, rfl⟩
      refine s1 (p_move rfl) rfl rfl rfl ?_
      refine s1 (p_index (kk := q) Tryz.underlying43 sz3 rfl rfl (rd_own m0) (by omega) (by omega) (by omega)) rfl rfl rfl ?_
      refine s1 (p_loadE (u := .int .i64 (colAt x q)) Tryz.underlying3 rfl rfl (rd_own m0) (by rcases (show q = 0 ∨ q = 1 ∨ q = 2 by omega) with rfl | rfl | rfl <;> rfl)) rfl rfl rfl ?_
      refine s_step (st_buildSlice (e := 3) (size := 1) rfl (fun w => bs43_1 _ w) rfl (by omega)) rfl rfl rfl ?_
      rintro _ _ ⟨g3, rfl, rfl⟩
      refine s_perm f3 ?_
      refine s_step (st_append (xs := in64 ((colorsL l).take (q * 256 + k))) Tryz.underlying43 inf3 rfl (by omega) rfl rfl (rd_own m1) (by simp [Value.oneCell']) ⟨by omega, by omega⟩) rfl rfl rfl ?_
      rintro _ _ ⟨A2, c2, rfl, rfl⟩
      refine s_perm f3 ?_
      refine s_perm f3 ?_
      refine s_perm f3 ?_
      refine s_sat drop0 ?_
      refine s_sat drop0 ?_
      refine s_sat drop0 ?_
      rw [in64_snoc (colorsL_get hl (by omega) hx)]
      refine s1 (p_assign rfl) rfl rfl rfl ?_
      refine s_nil ?_
      refine x_block ?_
      refine x_next ?_
      refine c_region ?_
      refine s1 (p_add rfl rfl (w64 (by omega))) rfl rfl rfl ?_
      refine s1 (p_move rfl) rfl rfl rfl ?_
      refine s_nil ?_
      exact x_loop ⟨A2, k + 1, c2⟩ (by first | omega | (dsimp only; omega)) (by first | omega | (dsimp only; omega)) ⟨rfl, rfl, rfl, rfl, rfl, rfl, rfl, trivial⟩ (f0)
    · refine c_exit ?_
      refine x_exit_then ?_
      refine x_exit_then ?_
      refine x_exit_here ?_
      refine x_block ?_
      refine x_next ?_
      refine c_region ?_
      refine s1 (p_add rfl rfl (w64 (by omega))) rfl rfl rfl ?_
      refine s1 (p_move rfl) rfl rfl rfl ?_
      refine s_nil ?_
      obtain rfl : k = 256 := by omega
      rw [show q * 256 + 256 = (q + 1) * 256 by omega]
      exact x_loop ⟨B, q + 1, cb⟩ (by first | omega | (dsimp only; omega)) (by first | omega | (dsimp only; omega)) ⟨rfl, rfl, (by rw [show (q + 1) * 256 = q * 256 + 256 by omega]; rfl), rfl, trivial⟩ (f0)
  · refine c_exit ?_
    refine x_exit_then ?_
    refine x_exit_then ?_
    refine x_exit_here ?_
    refine x_next ?_
    refine c_seq ?_
    refine c_region ?_
    refine s1 (p_move rfl) rfl rfl rfl ?_
    refine s1 (p_assign rfl) rfl rfl rfl ?_
    refine s_nil ?_
    refine x_next ?_
    refine c_ret ?_
    obtain rfl : q = 3 := by omega
    exact x_done_one rfl rfl ⟨B, cb, rfl, by rw [List.take_of_length_le (by simp [colorsL_length hl])]⟩

end V
end Go.Proofs.YtaflcjoagfnhfaaGreatDoor
