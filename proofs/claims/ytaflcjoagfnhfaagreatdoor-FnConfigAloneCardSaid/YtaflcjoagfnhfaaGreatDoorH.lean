/- Walks: what the reference's zlib packer calls: repeats, block, Four, Adler. -/
import Derived.Test.YtaflcjoagfnhfaaGreatDoorG
namespace Go.Proofs.YtaflcjoagfnhfaaGreatDoor
namespace V
open Go Go.Proofs

/-- The numbers of a list. -/
def in64 (l : List Int) : List Value := l.map (Value.int .i64 ·)
theorem in64_length (l : List Int) : (in64 l).length = l.length := by simp [in64]
theorem in64_get {l : List Int} {k : Nat} (h : k < l.length) : (in64 l)[k]? = some (.int .i64 (l.getD k 0)) := by
  simp [in64, List.getElem?_eq_getElem h, List.getD_eq_getElem?_getD]
theorem in64_append (l m : List Int) : in64 l ++ in64 m = in64 (l ++ m) := by simp [in64]
theorem in64_one (l : List Int) : ∀ u ∈ in64 l, u.oneCell' = true := by
  intro u hu; simp only [in64, List.mem_map] at hu; obtain ⟨x, _, rfl⟩ := hu; rfl
theorem getD_all {l : List Int} {p : Int → Prop} (h : ∀ x ∈ l, p x) (h0 : p 0) (k : Nat) : p (l.getD k 0) := by
  rw [List.getD_eq_getElem?_getD]
  cases e : l[k]? with
  | none => exact h0
  | some x => exact h x (List.mem_of_getElem? e)

theorem Wr.frame {T : TypeId} {g n : Nat} {F S : List As} (h : Wr T g n F S) : ∀ w, Sat w S → Sat w F := by
  obtain ⟨A, c, l, _, rfl⟩ := h
  exact fun _ hS => hS.tail.tail
theorem Wr.push {T : TypeId} {g n : Nat} {F S : List As} (h : Wr T g n F S) (B : As) : ∃ S', Wr T g n (B :: F) S' ∧ (B :: S).Perm S' := by
  obtain ⟨A, c, l, hl, rfl⟩ := h
  exact ⟨_, ⟨A, c, l, hl, rfl⟩, (List.Perm.swap ..).trans (List.Perm.cons _ (List.Perm.swap ..))⟩
theorem Wr.pop {T : TypeId} {g n : Nat} {F S : List As} {B : As} (h : Wr T g n (B :: F) S) : ∃ S', Wr T g n F S' ∧ S.Perm (B :: S') := by
  obtain ⟨A, c, l, hl, rfl⟩ := h
  exact ⟨_, ⟨A, c, l, hl, rfl⟩, f2⟩


set_option maxRecDepth 100000 in
theorem repeats_spec {S : List As} (A : Option Addr) (N c : Nat) (l : List Int) (hl : l.length = N) (at_ far : Int) (h0 : 0 ≤ at_) (h1 : at_ ≤ N) (h2 : 0 ≤ far) (hN : N ≤ 1000000000) (hr : ∀ w, Sat w S → Reads w (.slice A N c) 1 N (by8 l)) :
    Fun Tryz.prog 50 [.slice A N c, .int .i64 at_, .int .i64 far] (S) (fun u T => T = S ∧ ∃ r : Int, u = .int .i64 r ∧ 0 ≤ r ∧ r ≤ 258) := by
  refine fun_intro Tryz.func50 rfl Tryz.ntmps50 (Nat.le_of_ble_eq_true rfl) ?_
  refine c_seq ?_
  refine c_region ?_
  refine s1 (p_assign rfl) rfl rfl rfl ?_
  refine s_nil ?_
  refine x_next ?_
  refine c_seq ?_
  refine c_region ?_
  refine s1 (p_assign rfl) rfl rfl rfl ?_
  refine s_nil ?_
  refine x_next ?_
  refine c_seq ?_
  refine c_block ?_
  refine c_loop (α := (Int)) (fun gg => 0 ≤ gg ∧ gg ≤ 258) (fun gg => (258 - gg).toNat) (fun gg => [(0, .slice A N c), (1, .int .i64 at_), (2, .int .i64 far), (7, .int .i64 gg)]) (fun gg => S) 0 (⟨by omega, by omega⟩) ⟨rfl, rfl, rfl, rfl, trivial⟩ (f0) ?_
  rintro n hI
  replace hI : 0 ≤ n ∧ n ≤ 258 := hI
  obtain ⟨hn0, hn1⟩ := hI
  refine c_sub (L' := [(0, .slice A N c), (1, .int .i64 at_), (2, .int .i64 far), (7, .int .i64 n)]) ⟨rfl, rfl, rfl, rfl, trivial⟩ ?_
  refine c_perm (T := S) f0 ?_
  refine c_seq ?_
  refine c_seq ?_
  rcases (show (¬ far ≤ at_) ∨ (far ≤ at_ ∧ ¬ n < 258) ∨ (far ≤ at_ ∧ n < 258 ∧ ¬ at_ + n < (N : Int)) ∨ (far ≤ at_ ∧ n < 258 ∧ at_ + n < (N : Int)) from by omega) with hq | hq | hq | hq
  · refine c_draw 32 (S) mixed ?_
    refine d_take 0 rfl (p_move rfl) rfl rfl rfl (by kernel_rfl) (fun _ h => h) ?_
    refine d_take 1 rfl (p_move rfl) rfl rfl rfl (by kernel_rfl) (fun _ h => h) ?_
    refine d_take 2 rfl (pb_false (p_le rfl rfl) (by omega)) rfl rfl rfl (by kernel_rfl) (fun _ h => h) ?_
    refine d_take 3 rfl (p_move rfl) rfl rfl rfl (by kernel_rfl) (fun _ h => h) ?_
    refine d_skip 4 rfl rfl rfl rfl rfl rfl (by kernel_rfl) (fun _ h => h) ?_
    refine d_skip 5 rfl rfl rfl rfl rfl rfl (by kernel_rfl) (fun _ h => h) ?_
    refine d_take 6 rfl (p_pickF rfl rfl) rfl rfl rfl (by kernel_rfl) (fun _ h => h) ?_
    refine d_take 7 rfl (p_move rfl) rfl rfl rfl (by kernel_rfl) (fun _ h => h) ?_
    refine d_skip 8 rfl rfl rfl rfl rfl rfl (by kernel_rfl) (fun _ h => h) ?_
    refine d_skip 9 rfl rfl rfl rfl rfl rfl (by kernel_rfl) (fun _ h => h) ?_
    refine d_skip 10 rfl rfl rfl rfl rfl rfl (by kernel_rfl) (fun _ h => h) ?_
    refine d_skip 11 rfl rfl rfl rfl rfl rfl (by kernel_rfl) (fun _ h => h) ?_
    refine d_skip 12 rfl rfl rfl rfl rfl rfl (by kernel_rfl) (fun _ h => h) ?_
    refine d_skip 13 rfl rfl rfl rfl rfl rfl (by kernel_rfl) (fun _ h => h) ?_
    refine d_take 14 rfl (p_pickF rfl rfl) rfl rfl rfl (by kernel_rfl) (fun _ h => h) ?_
    refine d_take 15 rfl (p_move rfl) rfl rfl rfl (by kernel_rfl) (fun _ h => h) ?_
    refine d_skip 16 rfl rfl rfl rfl rfl rfl (by kernel_rfl) (fun _ h => h) ?_
    refine d_skip 17 rfl rfl rfl rfl rfl rfl (by kernel_rfl) (fun _ h => h) ?_
    refine d_skip 18 rfl rfl rfl rfl rfl rfl (by kernel_rfl) (fun _ h => h) ?_
    refine d_skip 19 rfl rfl rfl rfl rfl rfl (by kernel_rfl) (fun _ h => h) ?_
    refine d_skip 20 rfl rfl rfl rfl rfl rfl (by kernel_rfl) (fun _ h => h) ?_
    refine d_skip 21 rfl rfl rfl rfl rfl rfl (by kernel_rfl) (fun _ h => h) ?_
    refine d_skip 22 rfl rfl rfl rfl rfl rfl (by kernel_rfl) (fun _ h => h) ?_
    refine d_skip 23 rfl rfl rfl rfl rfl rfl (by kernel_rfl) (fun _ h => h) ?_
    refine d_skip 24 rfl rfl rfl rfl rfl rfl (by kernel_rfl) (fun _ h => h) ?_
    refine d_skip 25 rfl rfl rfl rfl rfl rfl (by kernel_rfl) (fun _ h => h) ?_
    refine d_skip 26 rfl rfl rfl rfl rfl rfl (by kernel_rfl) (fun _ h => h) ?_
    refine d_skip 27 rfl rfl rfl rfl rfl rfl (by kernel_rfl) (fun _ h => h) ?_
    refine d_skip 28 rfl rfl rfl rfl rfl rfl (by kernel_rfl) (fun _ h => h) ?_
    refine d_skip 29 rfl rfl rfl rfl rfl rfl (by kernel_rfl) (fun _ h => h) ?_
    refine d_skip 30 rfl rfl rfl rfl rfl rfl (by kernel_rfl) (fun _ h => h) ?_
    refine d_take 31 rfl (p_pickF rfl rfl) rfl rfl rfl (by kernel_rfl) (fun _ h => h) ?_
    refine d_done (by kernel_rfl) ?_
    refine x_next ?_
    refine c_false rfl ?_
    refine c_exit ?_
    refine x_exit_then ?_
    refine x_exit_then ?_
    refine x_exit_here ?_
    refine x_next ?_
    refine c_seq ?_
    refine c_region ?_
    refine s1 (p_move rfl) rfl rfl rfl ?_
    refine s1 (p_assign rfl) rfl rfl rfl ?_
    refine s_nil ?_
    refine x_next ?_
    refine c_ret ?_
    exact x_done_one rfl rfl ⟨rfl, n, rfl, hn0, hn1⟩
  · refine c_draw 32 (S) mixed ?_
    refine d_take 0 rfl (p_move rfl) rfl rfl rfl (by kernel_rfl) (fun _ h => h) ?_
    refine d_take 1 rfl (p_move rfl) rfl rfl rfl (by kernel_rfl) (fun _ h => h) ?_
    refine d_take 2 rfl (pb_true (p_le rfl rfl) (by omega)) rfl rfl rfl (by kernel_rfl) (fun _ h => h) ?_
    refine d_take 3 rfl (p_move rfl) rfl rfl rfl (by kernel_rfl) (fun _ h => h) ?_
    refine d_takeg 4 rfl (p_move rfl) rfl rfl rfl rfl (by kernel_rfl) (fun _ h => h) ?_
    refine d_takeg 5 rfl (pb_false (p_lt rfl rfl) (by omega)) rfl rfl rfl rfl (by kernel_rfl) (fun _ h => h) ?_
    refine d_take 6 rfl (p_pickT rfl rfl) rfl rfl rfl (by kernel_rfl) (fun _ h => h) ?_
    refine d_take 7 rfl (p_move rfl) rfl rfl rfl (by kernel_rfl) (fun _ h => h) ?_
    refine d_skip 8 rfl rfl rfl rfl rfl rfl (by kernel_rfl) (fun _ h => h) ?_
    refine d_skip 9 rfl rfl rfl rfl rfl rfl (by kernel_rfl) (fun _ h => h) ?_
    refine d_skip 10 rfl rfl rfl rfl rfl rfl (by kernel_rfl) (fun _ h => h) ?_
    refine d_skip 11 rfl rfl rfl rfl rfl rfl (by kernel_rfl) (fun _ h => h) ?_
    refine d_skip 12 rfl rfl rfl rfl rfl rfl (by kernel_rfl) (fun _ h => h) ?_
    refine d_skip 13 rfl rfl rfl rfl rfl rfl (by kernel_rfl) (fun _ h => h) ?_
    refine d_take 14 rfl (p_pickF rfl rfl) rfl rfl rfl (by kernel_rfl) (fun _ h => h) ?_
    refine d_take 15 rfl (p_move rfl) rfl rfl rfl (by kernel_rfl) (fun _ h => h) ?_
    refine d_skip 16 rfl rfl rfl rfl rfl rfl (by kernel_rfl) (fun _ h => h) ?_
    refine d_skip 17 rfl rfl rfl rfl rfl rfl (by kernel_rfl) (fun _ h => h) ?_
    refine d_skip 18 rfl rfl rfl rfl rfl rfl (by kernel_rfl) (fun _ h => h) ?_
    refine d_skip 19 rfl rfl rfl rfl rfl rfl (by kernel_rfl) (fun _ h => h) ?_
    refine d_skip 20 rfl rfl rfl rfl rfl rfl (by kernel_rfl) (fun _ h => h) ?_
    refine d_skip 21 rfl rfl rfl rfl rfl rfl (by kernel_rfl) (fun _ h => h) ?_
    refine d_skip 22 rfl rfl rfl rfl rfl rfl (by kernel_rfl) (fun _ h => h) ?_
    refine d_skip 23 rfl rfl rfl rfl rfl rfl (by kernel_rfl) (fun _ h => h) ?_
    refine d_skip 24 rfl rfl rfl rfl rfl rfl (by kernel_rfl) (fun _ h => h) ?_
    refine d_skip 25 rfl rfl rfl rfl rfl rfl (by kernel_rfl) (fun _ h => h) ?_
    refine d_skip 26 rfl rfl rfl rfl rfl rfl (by kernel_rfl) (fun _ h => h) ?_
    refine d_skip 27 rfl rfl rfl rfl rfl rfl (by kernel_rfl) (fun _ h => h) ?_
    refine d_skip 28 rfl rfl rfl rfl rfl rfl (by kernel_rfl) (fun _ h => h) ?_
    refine d_skip 29 rfl rfl rfl rfl rfl rfl (by kernel_rfl) (fun _ h => h) ?_
    refine d_skip 30 rfl rfl rfl rfl rfl rfl (by kernel_rfl) (fun _ h => h) ?_
    refine d_take 31 rfl (p_pickF rfl rfl) rfl rfl rfl (by kernel_rfl) (fun _ h => h) ?_
    refine d_done (by kernel_rfl) ?_
    refine x_next ?_
    refine c_false rfl ?_
    refine c_exit ?_
    refine x_exit_then ?_
    refine x_exit_then ?_
    refine x_exit_here ?_
    refine x_next ?_
    refine c_seq ?_
    refine c_region ?_
    refine s1 (p_move rfl) rfl rfl rfl ?_
    refine s1 (p_assign rfl) rfl rfl rfl ?_
    refine s_nil ?_
    refine x_next ?_
    refine c_ret ?_
    exact x_done_one rfl rfl ⟨rfl, n, rfl, hn0, hn1⟩
  · refine c_draw 32 (S) mixed ?_
    refine d_take 0 rfl (p_move rfl) rfl rfl rfl (by kernel_rfl) (fun _ h => h) ?_
    refine d_take 1 rfl (p_move rfl) rfl rfl rfl (by kernel_rfl) (fun _ h => h) ?_
    refine d_take 2 rfl (pb_true (p_le rfl rfl) (by omega)) rfl rfl rfl (by kernel_rfl) (fun _ h => h) ?_
    refine d_take 3 rfl (p_move rfl) rfl rfl rfl (by kernel_rfl) (fun _ h => h) ?_
    refine d_takeg 4 rfl (p_move rfl) rfl rfl rfl rfl (by kernel_rfl) (fun _ h => h) ?_
    refine d_takeg 5 rfl (pb_true (p_lt rfl rfl) (by omega)) rfl rfl rfl rfl (by kernel_rfl) (fun _ h => h) ?_
    refine d_take 6 rfl (p_pickT rfl rfl) rfl rfl rfl (by kernel_rfl) (fun _ h => h) ?_
    refine d_take 7 rfl (p_move rfl) rfl rfl rfl (by kernel_rfl) (fun _ h => h) ?_
    refine d_takeg 8 rfl (p_move rfl) rfl rfl rfl rfl (by kernel_rfl) (fun _ h => h) ?_
    refine d_takeg 9 rfl (p_move rfl) rfl rfl rfl rfl (by kernel_rfl) (fun _ h => h) ?_
    refine d_takeg 10 rfl (p_add rfl rfl (w64 (by omega))) rfl rfl rfl rfl (by kernel_rfl) (fun _ h => h) ?_
    refine d_takeg 11 rfl (p_move rfl) rfl rfl rfl rfl (by kernel_rfl) (fun _ h => h) ?_
    refine d_takeg 12 rfl (p_len Tryz.underlying23 rfl) rfl rfl rfl rfl (by kernel_rfl) (fun _ h => h) ?_
    refine d_takeg 13 rfl (pb_false (p_lt rfl rfl) (by omega)) rfl rfl rfl rfl (by kernel_rfl) (fun _ h => h) ?_
    refine d_take 14 rfl (p_pickT rfl rfl) rfl rfl rfl (by kernel_rfl) (fun _ h => h) ?_
    refine d_take 15 rfl (p_move rfl) rfl rfl rfl (by kernel_rfl) (fun _ h => h) ?_
    refine d_skip 16 rfl rfl rfl rfl rfl rfl (by kernel_rfl) (fun _ h => h) ?_
    refine d_skip 17 rfl rfl rfl rfl rfl rfl (by kernel_rfl) (fun _ h => h) ?_
    refine d_skip 18 rfl rfl rfl rfl rfl rfl (by kernel_rfl) (fun _ h => h) ?_
    refine d_skip 19 rfl rfl rfl rfl rfl rfl (by kernel_rfl) (fun _ h => h) ?_
    refine d_skip 20 rfl rfl rfl rfl rfl rfl (by kernel_rfl) (fun _ h => h) ?_
    refine d_skip 21 rfl rfl rfl rfl rfl rfl (by kernel_rfl) (fun _ h => h) ?_
    refine d_skip 22 rfl rfl rfl rfl rfl rfl (by kernel_rfl) (fun _ h => h) ?_
    refine d_skip 23 rfl rfl rfl rfl rfl rfl (by kernel_rfl) (fun _ h => h) ?_
    refine d_skip 24 rfl rfl rfl rfl rfl rfl (by kernel_rfl) (fun _ h => h) ?_
    refine d_skip 25 rfl rfl rfl rfl rfl rfl (by kernel_rfl) (fun _ h => h) ?_
    refine d_skip 26 rfl rfl rfl rfl rfl rfl (by kernel_rfl) (fun _ h => h) ?_
    refine d_skip 27 rfl rfl rfl rfl rfl rfl (by kernel_rfl) (fun _ h => h) ?_
    refine d_skip 28 rfl rfl rfl rfl rfl rfl (by kernel_rfl) (fun _ h => h) ?_
    refine d_skip 29 rfl rfl rfl rfl rfl rfl (by kernel_rfl) (fun _ h => h) ?_
    refine d_skip 30 rfl rfl rfl rfl rfl rfl (by kernel_rfl) (fun _ h => h) ?_
    refine d_take 31 rfl (p_pickF rfl rfl) rfl rfl rfl (by kernel_rfl) (fun _ h => h) ?_
    refine d_done (by kernel_rfl) ?_
    refine x_next ?_
    refine c_false rfl ?_
    refine c_exit ?_
    refine x_exit_then ?_
    refine x_exit_then ?_
    refine x_exit_here ?_
    refine x_next ?_
    refine c_seq ?_
    refine c_region ?_
    refine s1 (p_move rfl) rfl rfl rfl ?_
    refine s1 (p_assign rfl) rfl rfl rfl ?_
    refine s_nil ?_
    refine x_next ?_
    refine c_ret ?_
    exact x_done_one rfl rfl ⟨rfl, n, rfl, hn0, hn1⟩
  · refine c_draw 32 (S) mixed ?_
    refine d_take 0 rfl (p_move rfl) rfl rfl rfl (by kernel_rfl) (fun _ h => h) ?_
    refine d_take 1 rfl (p_move rfl) rfl rfl rfl (by kernel_rfl) (fun _ h => h) ?_
    refine d_take 2 rfl (pb_true (p_le rfl rfl) (by omega)) rfl rfl rfl (by kernel_rfl) (fun _ h => h) ?_
    refine d_take 3 rfl (p_move rfl) rfl rfl rfl (by kernel_rfl) (fun _ h => h) ?_
    refine d_takeg 4 rfl (p_move rfl) rfl rfl rfl rfl (by kernel_rfl) (fun _ h => h) ?_
    refine d_takeg 5 rfl (pb_true (p_lt rfl rfl) (by omega)) rfl rfl rfl rfl (by kernel_rfl) (fun _ h => h) ?_
    refine d_take 6 rfl (p_pickT rfl rfl) rfl rfl rfl (by kernel_rfl) (fun _ h => h) ?_
    refine d_take 7 rfl (p_move rfl) rfl rfl rfl (by kernel_rfl) (fun _ h => h) ?_
    refine d_takeg 8 rfl (p_move rfl) rfl rfl rfl rfl (by kernel_rfl) (fun _ h => h) ?_
    refine d_takeg 9 rfl (p_move rfl) rfl rfl rfl rfl (by kernel_rfl) (fun _ h => h) ?_
    refine d_takeg 10 rfl (p_add rfl rfl (w64 (by omega))) rfl rfl rfl rfl (by kernel_rfl) (fun _ h => h) ?_
    refine d_takeg 11 rfl (p_move rfl) rfl rfl rfl rfl (by kernel_rfl) (fun _ h => h) ?_
    refine d_takeg 12 rfl (p_len Tryz.underlying23 rfl) rfl rfl rfl rfl (by kernel_rfl) (fun _ h => h) ?_
    refine d_takeg 13 rfl (pb_true (p_lt rfl rfl) (by omega)) rfl rfl rfl rfl (by kernel_rfl) (fun _ h => h) ?_
    refine d_take 14 rfl (p_pickT rfl rfl) rfl rfl rfl (by kernel_rfl) (fun _ h => h) ?_
    refine d_take 15 rfl (p_move rfl) rfl rfl rfl (by kernel_rfl) (fun _ h => h) ?_
    refine d_takeg 16 rfl (p_move rfl) rfl rfl rfl rfl (by kernel_rfl) (fun _ h => h) ?_
    refine d_takeg 17 rfl (p_move rfl) rfl rfl rfl rfl (by kernel_rfl) (fun _ h => h) ?_
    refine d_takeg 18 rfl (p_move rfl) rfl rfl rfl rfl (by kernel_rfl) (fun _ h => h) ?_
    refine d_takeg 19 rfl (p_add rfl rfl (w64 (by omega))) rfl rfl rfl rfl (by kernel_rfl) (fun _ h => h) ?_
    refine d_takeg 20 rfl (p_index (kk := (at_ + n).toNat) Tryz.underlying23 sz5 rfl rfl hr (by omega) (by omega) (by omega)) rfl rfl rfl rfl (by kernel_rfl) (fun _ h => h) ?_
    refine d_takeg 21 rfl (p_loadE Tryz.underlying5 rfl rfl hr (by8_get (by omega))) rfl rfl rfl rfl (by kernel_rfl) (fun _ h => h) ?_
    refine d_takeg 22 rfl (p_move rfl) rfl rfl rfl rfl (by kernel_rfl) (fun _ h => h) ?_
    refine d_takeg 23 rfl (p_move rfl) rfl rfl rfl rfl (by kernel_rfl) (fun _ h => h) ?_
    refine d_takeg 24 rfl (p_move rfl) rfl rfl rfl rfl (by kernel_rfl) (fun _ h => h) ?_
    refine d_takeg 25 rfl (p_add rfl rfl (w64 (by omega))) rfl rfl rfl rfl (by kernel_rfl) (fun _ h => h) ?_
    refine d_takeg 26 rfl (p_move rfl) rfl rfl rfl rfl (by kernel_rfl) (fun _ h => h) ?_
    refine d_takeg 27 rfl (p_sub rfl rfl (w64 (by omega))) rfl rfl rfl rfl (by kernel_rfl) (fun _ h => h) ?_
    refine d_takeg 28 rfl (p_index (kk := (at_ + n - far).toNat) Tryz.underlying23 sz5 rfl rfl hr (by omega) (by omega) (by omega)) rfl rfl rfl rfl (by kernel_rfl) (fun _ h => h) ?_
    refine d_takeg 29 rfl (p_loadE Tryz.underlying5 rfl rfl hr (by8_get (by omega))) rfl rfl rfl rfl (by kernel_rfl) (fun _ h => h) ?_
    refine d_takeg 30 rfl (p_eq rfl rfl) rfl rfl rfl rfl (by kernel_rfl) (fun _ h => h) ?_
    refine d_take 31 rfl (p_pickT rfl rfl) rfl rfl rfl (by kernel_rfl) (fun _ h => h) ?_
    refine d_done (by kernel_rfl) ?_
    refine x_next ?_
    refine c_if rfl (fun h39 => ?_) (fun h39 => ?_)
    · refine c_skip ?_
      refine x_next ?_
      refine c_block ?_
      refine c_region ?_
      refine s1 (p_move rfl) rfl rfl rfl ?_
      refine s1 (p_add rfl rfl (w64 (by omega))) rfl rfl rfl ?_
      refine s1 (p_assign rfl) rfl rfl rfl ?_
      refine s_nil ?_
      refine x_block ?_
      exact x_loop (n + 1) (⟨by omega, by omega⟩) (by show (258 - (n + 1)).toNat < (258 - n).toNat; omega) ⟨rfl, rfl, rfl, rfl, trivial⟩ (f0)
    · refine c_exit ?_
      refine x_exit_then ?_
      refine x_exit_then ?_
      refine x_exit_here ?_
      refine x_next ?_
      refine c_seq ?_
      refine c_region ?_
      refine s1 (p_move rfl) rfl rfl rfl ?_
      refine s1 (p_assign rfl) rfl rfl rfl ?_
      refine s_nil ?_
      refine x_next ?_
      refine c_ret ?_
      exact x_done_one rfl rfl ⟨rfl, n, rfl, hn0, hn1⟩

set_option maxRecDepth 100000 in
theorem Adler_spec {S : List As} (A : Option Addr) (N c : Nat) (l : List Int) (hl : l.length = N) (hN : N ≤ 1000000000) (hr : ∀ w, Sat w S → Reads w (.slice A N c) 1 N (by8 l)) :
    Fun Tryz.prog 45 [.slice A N c] (S) (fun u T => T = S ∧ ∃ r : Int, u = .int .u32 r) := by
  refine fun_intro Tryz.func45 rfl Tryz.ntmps45 (Nat.le_of_ble_eq_true rfl) ?_
  refine c_seq ?_
  refine c_region ?_
  refine s1 (p_assign rfl) rfl rfl rfl ?_
  refine s_nil ?_
  refine x_next ?_
  refine c_seq ?_
  refine c_region ?_
  refine s1 (p_assign rfl) rfl rfl rfl ?_
  refine s1 (p_assign rfl) rfl rfl rfl ?_
  refine s_nil ?_
  refine x_next ?_
  refine c_seq ?_
  refine c_seq ?_
  refine c_region ?_
  refine s1 (p_move rfl) rfl rfl rfl ?_
  refine s1 (p_len Tryz.underlying23 rfl) rfl rfl rfl ?_
  refine s1 (p_move rfl) rfl rfl rfl ?_
  refine s_nil ?_
  refine x_next ?_
  refine c_block ?_
  refine c_loop (α := (Nat) × (Int) × (Int)) (fun gg => gg.1 ≤ N) (fun gg => N - gg.1) (fun gg => [(3, .int .u32 gg.2.1), (4, .int .u32 gg.2.2), (7, .slice A N c), (8, .int .i64 (N : Int)), (9, .int .i64 (gg.1 : Int))]) (fun gg => S) ⟨0, 1, 0⟩ (Nat.zero_le _) ⟨rfl, rfl, rfl, rfl, rfl, trivial⟩ (f0) ?_
  rintro ⟨i, x, y⟩ hI
  replace hI : i ≤ N := hI
  refine c_sub (L' := [(3, .int .u32 x), (4, .int .u32 y), (7, .slice A N c), (8, .int .i64 (N : Int)), (9, .int .i64 (i : Int))]) ⟨rfl, rfl, rfl, rfl, rfl, trivial⟩ ?_
  refine c_perm (T := S) f0 ?_
  refine c_seq ?_
  refine c_region ?_
  refine s1 (p_lt rfl rfl) rfl rfl rfl ?_
  refine s_nil ?_
  refine x_next ?_
  refine c_seq ?_
  refine c_if rfl (fun h10 => ?_) (fun h10 => ?_)
  · refine c_skip ?_
    refine x_next ?_
    refine c_seq ?_
    refine c_block ?_
    refine c_seq ?_
    refine c_region ?_
    refine s1 (p_index (kk := i) Tryz.underlying23 sz5 rfl rfl hr (by omega) (by omega) (by omega)) rfl rfl rfl ?_
    refine s1 (p_loadE Tryz.underlying5 rfl rfl hr (by8_get (by omega))) rfl rfl rfl ?_
    refine s1 (p_assign rfl) rfl rfl rfl ?_
    refine s_nil ?_
    refine x_next ?_
    refine c_seq ?_
    refine c_region ?_
    refine s1 (p_move rfl) rfl rfl rfl ?_
    refine s1 (p_move rfl) rfl rfl rfl ?_
    refine s1 (p_conv Tryz.underlying5 Tryz.underlying22 rfl rfl) rfl rfl rfl ?_
    refine s1 (p_add rfl rfl rfl) rfl rfl rfl ?_
    refine s1 (p_rem rfl rfl (by omega) rfl) rfl rfl rfl ?_
    refine s1 (p_assign rfl) rfl rfl rfl ?_
    refine s_nil ?_
    refine x_next ?_
    refine c_region ?_
    refine s1 (p_move rfl) rfl rfl rfl ?_
    refine s1 (p_move rfl) rfl rfl rfl ?_
    refine s1 (p_add rfl rfl rfl) rfl rfl rfl ?_
    refine s1 (p_rem rfl rfl (by omega) rfl) rfl rfl rfl ?_
    refine s1 (p_assign rfl) rfl rfl rfl ?_
    refine s_nil ?_
    refine x_block ?_
    refine x_next ?_
    refine c_region ?_
    refine s1 (p_add rfl rfl (w64 (by omega))) rfl rfl rfl ?_
    refine s1 (p_move rfl) rfl rfl rfl ?_
    refine s_nil ?_
    exact x_loop ⟨i + 1, _, _⟩ (by show i + 1 ≤ N; omega) (by show N - (i + 1) < N - i; omega) ⟨rfl, rfl, rfl, rfl, rfl, trivial⟩ (f0)
  · refine c_exit ?_
    refine x_exit_then ?_
    refine x_exit_then ?_
    refine x_exit_here ?_
    refine x_next ?_
    refine c_seq ?_
    refine c_region ?_
    refine s1 (p_move rfl) rfl rfl rfl ?_
    refine s1 (p_shl rfl rfl (by omega) rfl) rfl rfl rfl ?_
    refine s1 (p_move rfl) rfl rfl rfl ?_
    refine s1 (p_or rfl rfl rfl) rfl rfl rfl ?_
    refine s1 (p_assign rfl) rfl rfl rfl ?_
    refine s_nil ?_
    refine x_next ?_
    refine c_ret ?_
    exact x_done_one rfl rfl ⟨rfl, _, rfl⟩

set_option maxRecDepth 100000 in
theorem Four_spec {S : List As} (x : Int) :
    Fun Tryz.prog 44 [.int .u32 x] (S) (fun u T => ∃ g l, l.length = 4 ∧ u = .slice (some ⟨g, 0, none⟩) 4 4 ∧ T = own (.slice (some ⟨g, 0, none⟩) 4 4) 5 1 4 (by8 l) :: S) := by
  refine fun_intro Tryz.func44 rfl Tryz.ntmps44 (Nat.le_of_ble_eq_true rfl) ?_
  refine c_seq ?_
  refine c_region ?_
  refine s1 (p_assign rfl) rfl rfl rfl ?_
  refine s_nil ?_
  refine x_next ?_
  refine c_seq ?_
  refine c_region ?_
  refine s1 (p_move rfl) rfl rfl rfl ?_
  refine s1 (p_shr rfl rfl (by omega) rfl) rfl rfl rfl ?_
  refine s1 (p_conv Tryz.underlying22 Tryz.underlying5 rfl rfl) rfl rfl rfl ?_
  refine s1 (p_move rfl) rfl rfl rfl ?_
  refine s1 (p_shr rfl rfl (by omega) rfl) rfl rfl rfl ?_
  refine s1 (p_conv Tryz.underlying22 Tryz.underlying5 rfl rfl) rfl rfl rfl ?_
  refine s1 (p_move rfl) rfl rfl rfl ?_
  refine s1 (p_shr rfl rfl (by omega) rfl) rfl rfl rfl ?_
  refine s1 (p_conv Tryz.underlying22 Tryz.underlying5 rfl rfl) rfl rfl rfl ?_
  refine s1 (p_move rfl) rfl rfl rfl ?_
  refine s1 (p_conv Tryz.underlying22 Tryz.underlying5 rfl rfl) rfl rfl rfl ?_
  refine s_step (st_buildSlice (e := 5) (size := 1) rfl (fun w => bs23_4 _ _ _ _ w) rfl (by omega)) rfl rfl rfl ?_
  rintro _ _ ⟨g1, rfl, rfl⟩
  refine s1 (p_assign rfl) rfl rfl rfl ?_
  refine s_nil ?_
  refine x_next ?_
  refine c_ret ?_
  exact x_done_one rfl rfl ⟨g1, [_, _, _, _], rfl, rfl, rfl⟩

set_option maxRecDepth 100000 in
theorem block_spec {F : List As} (g n : Nat) (A : Option Addr) (N c : Nat) (l : List Int) (hl : l.length = N) (B : Option Addr) (M c2 : Nat) (fl : List Int) (hm : fl.length = M) (hfl : ∀ x ∈ fl, 0 ≤ x) (from_ to_ : Int) (h0 : 0 ≤ from_) (h1 : from_ ≤ to_) (h2 : to_ ≤ N) (hN : N ≤ 1000000) (hM : M ≤ 1000)
    (hr : ∀ w, Sat w F → Reads w (.slice A N c) 1 N (by8 l)) (hr2 : ∀ w, Sat w F → Reads w (.slice B M c2) 1 M (in64 fl)) (hn : (n : Int) + 11 * (to_ - from_) + 100 ≤ 1000000000) {S : List As} (hS : Wr 128 g n F S) :
    Fun Tryz.prog 43 [.pointer (some ⟨g, 0, none⟩), .slice A N c, .int .i64 from_, .int .i64 to_, .slice B M c2] (S) (fun u T => u = .tuple #[] ∧ ∃ k : Nat, (k : Int) ≤ 11 * (to_ - from_) + 9 ∧ Wr 128 g (n + k) F T) := by
  refine fun_intro Tryz.func43 rfl Tryz.ntmps43 (Nat.le_of_ble_eq_true rfl) ?_
  refine c_seq ?_
  refine c_seq ?_
  refine c_region ?_
  refine s1 (p_move rfl) rfl rfl rfl ?_
  refine s1 (p_assign rfl) rfl rfl rfl ?_
  refine s_nil ?_
  refine x_next ?_
  refine c_block ?_
  refine c_loop (α := (Int) × (Nat) × (List As)) (fun gg => from_ ≤ gg.1 ∧ gg.1 ≤ to_ ∧ (gg.2.1 : Int) ≤ 11 * (gg.1 - from_) ∧ Wr 128 g (n + gg.2.1) F gg.2.2) (fun gg => (to_ - gg.1).toNat) (fun gg => [(0, .pointer (some ⟨g, 0, none⟩)), (1, .slice A N c), (3, .int .i64 to_), (4, .slice B M c2), (10, .int .i64 gg.1)]) (fun gg => gg.2.2) ⟨from_, 0, S⟩ (⟨by omega, by omega, by simp, hS⟩) ⟨rfl, rfl, rfl, rfl, rfl, trivial⟩ (f0) ?_
  rintro ⟨at_, j, T⟩ hI
  replace hI : from_ ≤ at_ ∧ at_ ≤ to_ ∧ (j : Int) ≤ 11 * (at_ - from_) ∧ Wr 128 g (n + j) F T := hI
  obtain ⟨ha, hb, hj, hT⟩ := hI
  refine c_sub (L' := [(0, .pointer (some ⟨g, 0, none⟩)), (1, .slice A N c), (3, .int .i64 to_), (4, .slice B M c2), (10, .int .i64 at_)]) ⟨rfl, rfl, rfl, rfl, rfl, trivial⟩ ?_
  refine c_perm (T := T) f0 ?_
  refine c_seq ?_
  refine c_seq ?_
  refine c_region ?_
  refine s1 (p_move rfl) rfl rfl rfl ?_
  refine s1 (p_move rfl) rfl rfl rfl ?_
  refine s1 (p_lt rfl rfl) rfl rfl rfl ?_
  refine s_nil ?_
  refine x_next ?_
  refine c_if rfl (fun h19 => ?_) (fun h19 => ?_)
  · refine c_skip ?_
    refine x_next ?_
    refine c_block ?_
    refine c_seq ?_
    refine c_region ?_
    refine s1 (p_assign rfl) rfl rfl rfl ?_
    refine s1 (p_assign rfl) rfl rfl rfl ?_
    refine s_nil ?_
    refine x_next ?_
    refine c_seq ?_
    refine c_seq ?_
    refine c_region ?_
    refine s1 (p_move rfl) rfl rfl rfl ?_
    refine s1 (p_len Tryz.underlying43 rfl) rfl rfl rfl ?_
    refine s1 (p_move rfl) rfl rfl rfl ?_
    refine s_nil ?_
    refine x_next ?_
    refine c_block ?_
    refine c_loop (α := (Nat) × (Int) × (Int)) (fun gg => gg.1 ≤ M ∧ 0 ≤ gg.2.1 ∧ gg.2.1 ≤ to_ - at_) (fun gg => M - gg.1) (fun gg => [(0, .pointer (some ⟨g, 0, none⟩)), (1, .slice A N c), (3, .int .i64 to_), (4, .slice B M c2), (10, .int .i64 at_), (11, .int .i64 gg.2.1), (12, .int .i64 gg.2.2), (20, .slice B M c2), (21, .int .i64 (M : Int)), (22, .int .i64 (gg.1 : Int))]) (fun gg => T) ⟨0, 0, 0⟩ (⟨Nat.zero_le _, by show (0 : Int) ≤ 0; omega, by show (0 : Int) ≤ to_ - at_; omega⟩) ⟨rfl, rfl, rfl, rfl, rfl, rfl, rfl, rfl, rfl, rfl, trivial⟩ (f0) ?_
    rintro ⟨i, m, d⟩ hI
    replace hI : i ≤ M ∧ 0 ≤ m ∧ m ≤ to_ - at_ := hI
    obtain ⟨hi, hm0, hm1⟩ := hI
    refine c_sub (L' := [(0, .pointer (some ⟨g, 0, none⟩)), (1, .slice A N c), (3, .int .i64 to_), (4, .slice B M c2), (10, .int .i64 at_), (11, .int .i64 m), (12, .int .i64 d), (20, .slice B M c2), (21, .int .i64 (M : Int)), (22, .int .i64 (i : Int))]) ⟨rfl, rfl, rfl, rfl, rfl, rfl, rfl, rfl, rfl, rfl, trivial⟩ ?_
    refine c_perm (T := T) f0 ?_
    refine c_seq ?_
    refine c_region ?_
    refine s1 (p_lt rfl rfl) rfl rfl rfl ?_
    refine s_nil ?_
    refine x_next ?_
    refine c_seq ?_
    refine c_if rfl (fun h23 => ?_) (fun h23 => ?_)
    · refine c_skip ?_
      refine x_next ?_
      refine c_seq ?_
      refine c_block ?_
      refine c_seq ?_
      refine c_region ?_
      refine s1 (p_index (kk := i) Tryz.underlying43 sz3 rfl rfl (fun w h => hr2 w (hT.frame w h)) (by omega) (by omega) (by omega)) rfl rfl rfl ?_
      refine s1 (p_loadE Tryz.underlying3 rfl rfl (fun w h => hr2 w (hT.frame w h)) (in64_get (by omega))) rfl rfl rfl ?_
      refine s1 (p_assign rfl) rfl rfl rfl ?_
      refine s_nil ?_
      refine x_next ?_
      refine c_seq ?_
      refine c_region ?_
      refine s1 (p_move rfl) rfl rfl rfl ?_
      refine s1 (p_move rfl) rfl rfl rfl ?_
      refine s1 (p_move rfl) rfl rfl rfl ?_
      refine s_step (st_call Tryz.func50 nm50 bo50 rfl (repeats_spec A N c l hl at_ _ (by omega) (by omega) (getD_all hfl (Int.le_refl 0) i) (by omega) (fun w h => hr w (hT.frame w h)))) rfl rfl rfl ?_
      rintro _ _ ⟨rfl, r, rfl, hr0, hr1⟩
      refine s1 (p_move rfl) rfl rfl rfl ?_
      refine s1 (p_move rfl) rfl rfl rfl ?_
      refine s1 (p_sub rfl rfl (w64 (by omega))) rfl rfl rfl ?_
      refine s1 (p_min rfl rfl (itemin _ _)) rfl rfl rfl ?_
      refine s1 (p_assign rfl) rfl rfl rfl ?_
      refine s_nil ?_
      refine x_next ?_
      refine c_seq ?_
      refine c_region ?_
      refine s1 (p_move rfl) rfl rfl rfl ?_
      refine s1 (p_move rfl) rfl rfl rfl ?_
      refine s1 (p_gt rfl rfl) rfl rfl rfl ?_
      refine s_nil ?_
      refine x_next ?_
      refine c_if rfl (fun h36 => ?_) (fun h36 => ?_)
      · refine c_region ?_
        refine s1 (p_move rfl) rfl rfl rfl ?_
        refine s1 (p_move rfl) rfl rfl rfl ?_
        refine s1 (p_assign rfl) rfl rfl rfl ?_
        refine s1 (p_assign rfl) rfl rfl rfl ?_
        refine s_nil ?_
        refine x_block ?_
        refine x_next ?_
        refine c_region ?_
        refine s1 (p_add rfl rfl (w64 (by omega))) rfl rfl rfl ?_
        refine s1 (p_move rfl) rfl rfl rfl ?_
        refine s_nil ?_
        exact x_loop ⟨i + 1, min r (to_ - at_), fl.getD i 0⟩ (⟨by show i + 1 ≤ M; omega, by show 0 ≤ min r (to_ - at_); omega, by show min r (to_ - at_) ≤ to_ - at_; omega⟩) (by show M - (i + 1) < M - i; omega) ⟨rfl, rfl, rfl, rfl, rfl, rfl, rfl, rfl, rfl, rfl, trivial⟩ (f0)
      · refine c_skip ?_
        refine x_block ?_
        refine x_next ?_
        refine c_region ?_
        refine s1 (p_add rfl rfl (w64 (by omega))) rfl rfl rfl ?_
        refine s1 (p_move rfl) rfl rfl rfl ?_
        refine s_nil ?_
        exact x_loop ⟨i + 1, m, d⟩ (⟨by show i + 1 ≤ M; omega, hm0, hm1⟩) (by show M - (i + 1) < M - i; omega) ⟨rfl, rfl, rfl, rfl, rfl, rfl, rfl, rfl, rfl, rfl, trivial⟩ (f0)
    · refine c_exit ?_
      refine x_exit_then ?_
      refine x_exit_then ?_
      refine x_exit_here ?_
      refine x_next ?_
      refine c_seq ?_
      refine c_seq ?_
      refine c_region ?_
      refine s1 (p_move rfl) rfl rfl rfl ?_
      refine s1 (p_lt rfl rfl) rfl rfl rfl ?_
      refine s_nil ?_
      refine x_next ?_
      refine c_if rfl (fun h41 => ?_) (fun h41 => ?_)
      · refine c_seq ?_
        refine c_region ?_
        refine s1 (p_move rfl) rfl rfl rfl ?_
        refine s1 (p_move rfl) rfl rfl rfl ?_
        refine s1 (p_move rfl) rfl rfl rfl ?_
        refine s1 (p_index (kk := at_.toNat) Tryz.underlying23 sz5 rfl rfl (fun w h => hr w (hT.frame w h)) (by omega) (by omega) (by omega)) rfl rfl rfl ?_
        refine s1 (p_loadE Tryz.underlying5 rfl rfl (fun w h => hr w (hT.frame w h)) (by8_get (by omega))) rfl rfl rfl ?_
        refine s1 (p_conv Tryz.underlying5 Tryz.underlying3 rfl rfl) rfl rfl rfl ?_
        refine s_step (st_call Tryz.func51 nm51 bo51 rfl (symbol_spec g (n + j) _ (by omega) hT)) rfl rfl rfl ?_
        rintro _ T1 ⟨rfl, k1, hk1, hk2, hT1⟩
        refine s_nil ?_
        refine x_next ?_
        refine c_seq ?_
        refine c_region ?_
        refine s1 (p_move rfl) rfl rfl rfl ?_
        refine s1 (p_add rfl rfl (w64 (by omega))) rfl rfl rfl ?_
        refine s1 (p_assign rfl) rfl rfl rfl ?_
        refine s_nil ?_
        refine x_next ?_
        refine c_exit ?_
        refine x_exit_then ?_
        refine x_exit_here ?_
        exact x_loop ⟨at_ + 1, j + k1, T1⟩ (⟨by omega, by omega, by dsimp only; omega, by rw [← Nat.add_assoc]; exact hT1⟩) (by show (to_ - (at_ + 1)).toNat < (to_ - at_).toNat; omega) ⟨rfl, rfl, rfl, rfl, rfl, trivial⟩ (f0)
      · refine c_skip ?_
        refine x_next ?_
        refine c_seq ?_
        refine c_region ?_
        refine s1 (p_move rfl) rfl rfl rfl ?_
        refine s1 (p_move rfl) rfl rfl rfl ?_
        refine s1 (p_move rfl) rfl rfl rfl ?_
        refine s_step (st_call Tryz.func52 nm52 bo52 rfl (again_spec g (n + j) m d (by omega) hT)) rfl rfl rfl ?_
        rintro _ T1 ⟨rfl, k1, hk2, hT1⟩
        refine s_nil ?_
        refine x_next ?_
        refine c_region ?_
        refine s1 (p_move rfl) rfl rfl rfl ?_
        refine s1 (p_move rfl) rfl rfl rfl ?_
        refine s1 (p_add rfl rfl (w64 (by omega))) rfl rfl rfl ?_
        refine s1 (p_assign rfl) rfl rfl rfl ?_
        refine s_nil ?_
        refine x_block ?_
        exact x_loop ⟨at_ + m, j + k1, T1⟩ (⟨by omega, by omega, by dsimp only; omega, by rw [← Nat.add_assoc]; exact hT1⟩) (by show (to_ - (at_ + m)).toNat < (to_ - at_).toNat; omega) ⟨rfl, rfl, rfl, rfl, rfl, trivial⟩ (f0)
  · refine c_exit ?_
    refine x_exit_then ?_
    refine x_exit_then ?_
    refine x_exit_here ?_
    refine x_next ?_
    refine c_region ?_
    refine s1 (p_move rfl) rfl rfl rfl ?_
    refine s_step (st_call Tryz.func51 nm51 bo51 rfl (symbol_spec g (n + j) _ (by omega) hT)) rfl rfl rfl ?_
    rintro _ T1 ⟨rfl, k1, hk1, hk2, hT1⟩
    refine s_nil ?_
    exact x_done_none rfl ⟨rfl, j + k1, by omega, by rw [← Nat.add_assoc]; exact hT1⟩

end V
end Go.Proofs.YtaflcjoagfnhfaaGreatDoor
