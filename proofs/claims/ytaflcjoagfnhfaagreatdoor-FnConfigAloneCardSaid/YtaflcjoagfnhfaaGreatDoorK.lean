/- Walks: the reference's PackBits, and what its LZW packer calls. -/
import Derived.Test.YtaflcjoagfnhfaaGreatDoorJ
namespace Go.Proofs.YtaflcjoagfnhfaaGreatDoor
namespace V
open Go Go.Proofs

theorem three (p q : Prop) : ¬ p ∨ (p ∧ ¬ q) ∨ (p ∧ q) := by
  rcases Classical.em p with h | h <;> rcases Classical.em q with k | k <;> simp [h, k]
theorem bAnd7 {a : Int} (h0 : 0 ≤ a) (h1 : a ≤ 9223372036854775807) : bAnd .i64 a 7 = a % 8 := by
  obtain ⟨n, rfl⟩ := Int.eq_ofNat_of_zero_le h0
  have h2 : (BitVec.ofInt 64 (n : Int) &&& BitVec.ofInt 64 7).toNat = n % 8 := by
    have e1 : (BitVec.ofInt 64 (n : Int)).toNat = n := by
      rw [BitVec.ofInt_natCast, BitVec.toNat_ofNat]; omega
    have e2 : (BitVec.ofInt 64 7).toNat = 7 := rfl
    rw [BitVec.toNat_and, e1, e2]
    exact Nat.and_two_pow_sub_one_eq_mod n 3
  unfold bAnd
  show IntKind.i64.wrap (((BitVec.ofInt 64 (n : Int) &&& BitVec.ofInt 64 7).toNat : Nat) : Int) = _
  rw [h2, w64 (by omega)]
  omega
theorem shr3 {a : Int} (_h0 : 0 ≤ a) : a.fdiv (2 ^ min (3 : Int).toNat IntKind.i64.bits) = a / 8 := by
  have e : (2 ^ min (3 : Int).toNat IntKind.i64.bits : Int) = 8 := rfl
  rw [e, Int.fdiv_eq_ediv_of_nonneg _ (by omega)]

def strOf (l : List Int) : ByteArray := l.foldl (fun r n => r.push (UInt8.ofNat n.toNat)) ByteArray.empty
section
variable {P : Program} {L : Env} {S : List As} {dst : Option Tmp} {ty : TypeId} {pos : String} {af : Array Edge} {gd : Option (Nat × Bool)}
/-- string(b) -/
theorem p_b2s {x : Operand} {s d e : TypeId} {A : Option Addr} {n c : Nat} {l : List Int} (hs : P.underlying s = some (.slice e)) (he : P.underlying e = some (.int .u8)) (hd : P.underlying d = some .string)
    (hx : ev L x = some (.slice A n c)) (hr : ∀ w, Sat w S → Reads w (.slice A n c) 1 n (by8 l)) : Pure1 P L S ⟨dst, .convert s d x, ty, pos, af, gd⟩ (.string (strOf l)) := by
  intro ρ w hA hS
  obtain ⟨hl, _, A', c', hv, _, _, hc⟩ := hr w hS
  simp only [Value.slice.injEq] at hv
  obtain ⟨rfl, _, rfl⟩ := hv
  have hl' : l.length = n := by simpa [by8] using hl
  have key : (Conv.bytesToString (.slice A n c)).run P w = .ok (.string (strOf l)) w := by
    rcases Nat.eq_zero_or_pos n with h0 | h0
    · subst h0
      obtain rfl : l = [] := List.eq_nil_of_length_eq_zero hl'
      cases A with
      | none => simp [Conv.bytesToString, strOf]
      | some a => exact run_bytesToString w a 0 c [] (by simp [loadCells, loadCellsFrom])
    · obtain ⟨ad, rfl, hcell⟩ := hc h0
      refine run_bytesToString w ad n c l ?_
      have := run_loadCells_list (P := P) w ad (by8 l) hcell
      rw [by8_length, hl'] at this
      exact this
  simp [execOp, hA x _ hx, convert, run_underlying hs, run_underlying hd, run_underlying he, key]
theorem p_seq {x y : Operand} {xt yt : TypeId} {a b : ByteArray} (hx : ev L x = some (.string a)) (hy : ev L y = some (.string b)) : Pure1 P L S ⟨dst, .binOp .eql xt x y yt, ty, pos, af, gd⟩ (.bool (a.toList == b.toList)) := by
  intro ρ w hA _; simp [execOp, hA x _ hx, hA y _ hy, eqGuard, binOp, Op.stringOp]
theorem p_makeFunc {f : Fn} {caps : List Operand} {vs : List Value} (h : evs L caps = some vs) : Pure1 P L S ⟨dst, .makeFunc f #[] caps.toArray, ty, pos, af, gd⟩ (.func f #[] vs.toArray) := by
  intro ρ w hA _
  have := hA.evs caps vs h
  simp [execOp, Instr.makeFunc, this]
end

theorem Wr.pushes {T : TypeId} {g n : Nat} {F : List As} : ∀ (Bs : List As) {S : List As}, Wr T g n F S → ∃ S', Wr T g n (Bs ++ F) S' ∧ (Bs ++ S).Perm S'
  | [], S, h => ⟨S, h, List.Perm.refl _⟩
  | B :: Bs, S, h => by
    obtain ⟨S1, h1, p1⟩ := Wr.pushes Bs h
    obtain ⟨S2, h2, p2⟩ := h1.push B
    exact ⟨S2, h2, (List.Perm.cons B p1).trans p2⟩
theorem Wr.pops {T : TypeId} {g n : Nat} {F : List As} : ∀ (Bs : List As) {S : List As}, Wr T g n (Bs ++ F) S → ∃ S', Wr T g n F S' ∧ S.Perm (Bs ++ S')
  | [], S, h => ⟨S, h, List.Perm.refl _⟩
  | B :: Bs, S, h => by
    obtain ⟨S1, h1, p1⟩ := Wr.pop h
    obtain ⟨S2, h2, p2⟩ := Wr.pops Bs h1
    exact ⟨S2, h2, p1.trans (List.Perm.cons B p2)⟩
theorem Wr.frame1 {T : TypeId} {g n : Nat} {F S : List As} (h : Wr T g n F S) (B : As) : ∀ w, Sat w (B :: S) → Sat w (B :: F) := by
  obtain ⟨A, c, l, _, rfl⟩ := h
  exact fun w hS => hS.perm_cons (fun C hC => List.mem_cons_of_mem _ (List.mem_cons_of_mem _ hC)) hS.tail.tail.tail

/-- A slice of bytes, as a value; a row of such slices, with what they lead to. -/
def wv (x : Option Addr × Nat × List Int) : Value := .slice x.1 x.2.2.length x.2.1
def lst (v : Value) (n : Nat) (ws : List (Option Addr × Nat × List Int)) : As := deep v 23 1 n (ws.map wv) (ws.map fun x => (wv x, by8 x.2.2))
theorem rd_lst {S : List As} {v : Value} {n : Nat} {ws : List (Option Addr × Nat × List Int)} (h : lst v n ws ∈ S) : ∀ w, Sat w S → Reads w v 1 n (ws.map wv) := rd_deep h
theorem rd_word {S : List As} {v : Value} {n i : Nat} {ws : List (Option Addr × Nat × List Int)} {A : Option Addr} {c : Nat} {l : List Int} (h : lst v n ws ∈ S) (hi : ws[i]? = some (A, c, l)) :
    ∀ w, Sat w S → Reads w (.slice A l.length c) 1 l.length (by8 l) := by
  intro w hS
  have := rd_sub h (s := (wv (A, c, l), by8 l)) (List.mem_map.2 ⟨_, List.mem_of_getElem? hi, rfl⟩) w hS
  rw [by8_length] at this
  exact this
theorem lst_new {S : List As} {v : Value} {n : Nat} : ∀ w, Sat w (own v 23 1 n [] :: S) → Sat w (lst v n [] :: S) := deep_of_own
theorem lst_take {S : List As} {v : Value} {n : Nat} {ws : List (Option Addr × Nat × List Int)} {A : Option Addr} {c k : Nat} {l : List Int} (hk : l.length = k) :
    ∀ w, Sat w (deep v 23 1 n (ws.map wv ++ [.slice A k c]) (ws.map fun x => (wv x, by8 x.2.2)) :: own (.slice A k c) 5 1 k (by8 l) :: S) → Sat w (lst v n (ws ++ [(A, c, l)]) :: S) := by
  subst hk
  intro w h
  have := deep_take w h
  unfold lst
  rw [List.map_append, List.map_append]
  exact this


set_option maxRecDepth 100000 in
theorem Run_spec {F : List As} (A : Option Addr) (N c : Nat) (l : List Int) (hl : l.length = N) (hN : N ≤ 1000000) (hr : ∀ w, Sat w F → Reads w (.slice A N c) 1 N (by8 l)) :
    Fun Tryz.prog 29 [.slice A N c, .int .i64 2, .int .i64 1] (F) (fun u T => ∃ A2 c2 l2, ∃ k : Nat, l2.length = k ∧ (0 < N → 0 < k) ∧ k ≤ 3 * N ∧ u = .slice A2 k c2 ∧ T = own (.slice A2 k c2) 5 1 k (by8 l2) :: F) := by
  refine fun_intro Tryz.func29 rfl Tryz.ntmps29 (Nat.le_of_ble_eq_true rfl) ?_
  refine c_have (p := N ≤ c) (fun w h => (hr w h).cap) ?_
  intro hNc
  refine c_seq ?_
  refine c_region ?_
  refine s1 (p_assign rfl) rfl rfl rfl ?_
  refine s_nil ?_
  refine x_next ?_
  refine c_seq ?_
  refine c_region ?_
  refine s_step (st_buildSlice (e := 5) (size := 1) rfl (fun w => bs23_0 w) rfl (by omega)) rfl rfl rfl ?_
  rintro _ _ ⟨g1, rfl, rfl⟩
  refine s1 (p_assign rfl) rfl rfl rfl ?_
  refine s_nil ?_
  refine x_next ?_
  refine c_seq ?_
  refine c_seq ?_
  refine c_region ?_
  refine s1 (p_assign rfl) rfl rfl rfl ?_
  refine s_nil ?_
  refine x_next ?_
  refine c_block ?_
  refine c_loop (α := (Int) × (Option Addr) × (Nat) × (Nat) × (List Int)) (fun gg => 0 ≤ gg.1 ∧ gg.1 ≤ N ∧ gg.2.2.2.2.length = gg.2.2.1 ∧ (gg.2.2.1 : Int) ≤ 3 * gg.1 ∧ (0 < gg.1 → 0 < gg.2.2.1)) (fun gg => ((N : Int) - gg.1).toNat) (fun gg => [(0, .slice A N c), (1, .int .i64 2), (2, .int .i64 1), (7, .slice gg.2.1 gg.2.2.1 gg.2.2.2.1), (8, .int .i64 gg.1)]) (fun gg => own (.slice gg.2.1 gg.2.2.1 gg.2.2.2.1) 5 1 gg.2.2.1 (by8 gg.2.2.2.2) :: F) ⟨0, _, 0, 0, []⟩ (⟨Int.le_refl 0, by first | omega | (dsimp only; omega), rfl, by simp, by simp⟩) ⟨rfl, rfl, rfl, rfl, rfl, trivial⟩ (f0) ?_
  rintro ⟨k, A1, m, c1, lo⟩ hI
  replace hI : 0 ≤ k ∧ k ≤ N ∧ lo.length = m ∧ (m : Int) ≤ 3 * k ∧ (0 < k → 0 < m) := hI
  obtain ⟨h0, h1, h2, h3, h4⟩ := hI
  refine c_sub (L' := [(0, .slice A N c), (1, .int .i64 2), (2, .int .i64 1), (7, .slice A1 m c1), (8, .int .i64 k)]) ⟨rfl, rfl, rfl, rfl, rfl, trivial⟩ ?_
  refine c_perm (T := own (.slice A1 m c1) 5 1 m (by8 lo) :: F) f0 ?_
  refine c_seq ?_
  refine c_seq ?_
  refine c_region ?_
  refine s1 (p_move rfl) rfl rfl rfl ?_
  refine s1 (p_move rfl) rfl rfl rfl ?_
  refine s1 (p_len Tryz.underlying23 rfl) rfl rfl rfl ?_
  refine s1 (p_lt rfl rfl) rfl rfl rfl ?_
  refine s_nil ?_
  refine x_next ?_
  refine c_if rfl (fun h14 => ?_) (fun h14 => ?_)
  · refine c_skip ?_
    refine x_next ?_
    refine c_block ?_
    refine c_seq ?_
    refine c_region ?_
    refine s1 (p_assign rfl) rfl rfl rfl ?_
    refine s_nil ?_
    refine x_next ?_
    refine c_cut (α := (Int)) (fun gg => 1 ≤ gg ∧ k + gg ≤ N ∧ gg ≤ 128) (fun gg => [(0, .slice A N c), (1, .int .i64 2), (2, .int .i64 1), (7, .slice A1 m c1), (8, .int .i64 k), (9, .int .i64 gg)]) (fun gg => own (.slice A1 m c1) 5 1 m (by8 lo) :: F) ?_ ?_
    · refine c_block ?_
      refine c_loop (α := (Int)) (fun gg => 1 ≤ gg ∧ k + gg ≤ N ∧ gg ≤ 128) (fun gg => ((N : Int) - k - gg).toNat) (fun gg => [(0, .slice A N c), (1, .int .i64 2), (2, .int .i64 1), (7, .slice A1 m c1), (8, .int .i64 k), (9, .int .i64 gg)]) (fun gg => own (.slice A1 m c1) 5 1 m (by8 lo) :: F) 1 (⟨by omega, by omega, by omega⟩) ⟨rfl, rfl, rfl, rfl, rfl, rfl, trivial⟩ (f0) ?_
      rintro n hI
      replace hI : 1 ≤ n ∧ k + n ≤ N ∧ n ≤ 128 := hI
      have hn := hI
      refine c_sub (L' := [(0, .slice A N c), (1, .int .i64 2), (2, .int .i64 1), (7, .slice A1 m c1), (8, .int .i64 k), (9, .int .i64 n)]) ⟨rfl, rfl, rfl, rfl, rfl, rfl, trivial⟩ ?_
      refine c_perm (T := own (.slice A1 m c1) 5 1 m (by8 lo) :: F) f0 ?_
      refine c_seq ?_
      refine c_seq ?_
      rcases three (k + n < (N : Int)) (l.getD (k + n).toNat 0 = l.getD k.toNat 0) with hq | hq | hq
      · refine c_draw 23 (own (.slice A1 m c1) 5 1 m (by8 lo) :: F) mixed ?_
        refine d_take 0 rfl (p_move rfl) rfl rfl rfl (by kernel_rfl) (fun _ h => h) ?_
        refine d_take 1 rfl (p_move rfl) rfl rfl rfl (by kernel_rfl) (fun _ h => h) ?_
        refine d_take 2 rfl (p_add rfl rfl (w64 (by omega))) rfl rfl rfl (by kernel_rfl) (fun _ h => h) ?_
        refine d_take 3 rfl (p_move rfl) rfl rfl rfl (by kernel_rfl) (fun _ h => h) ?_
        refine d_take 4 rfl (p_len Tryz.underlying23 rfl) rfl rfl rfl (by kernel_rfl) (fun _ h => h) ?_
        refine d_take 5 rfl (pb_false (p_lt rfl rfl) (by omega)) rfl rfl rfl (by kernel_rfl) (fun _ h => h) ?_
        refine d_take 6 rfl (p_move rfl) rfl rfl rfl (by kernel_rfl) (fun _ h => h) ?_
        refine d_skip 7 rfl rfl rfl rfl rfl rfl (by kernel_rfl) (fun _ h => h) ?_
        refine d_skip 8 rfl rfl rfl rfl rfl rfl (by kernel_rfl) (fun _ h => h) ?_
        refine d_skip 9 rfl rfl rfl rfl rfl rfl (by kernel_rfl) (fun _ h => h) ?_
        refine d_skip 10 rfl rfl rfl rfl rfl rfl (by kernel_rfl) (fun _ h => h) ?_
        refine d_skip 11 rfl rfl rfl rfl rfl rfl (by kernel_rfl) (fun _ h => h) ?_
        refine d_skip 12 rfl rfl rfl rfl rfl rfl (by kernel_rfl) (fun _ h => h) ?_
        refine d_skip 13 rfl rfl rfl rfl rfl rfl (by kernel_rfl) (fun _ h => h) ?_
        refine d_skip 14 rfl rfl rfl rfl rfl rfl (by kernel_rfl) (fun _ h => h) ?_
        refine d_skip 15 rfl rfl rfl rfl rfl rfl (by kernel_rfl) (fun _ h => h) ?_
        refine d_skip 16 rfl rfl rfl rfl rfl rfl (by kernel_rfl) (fun _ h => h) ?_
        refine d_skip 17 rfl rfl rfl rfl rfl rfl (by kernel_rfl) (fun _ h => h) ?_
        refine d_take 18 rfl (p_pickF rfl rfl) rfl rfl rfl (by kernel_rfl) (fun _ h => h) ?_
        refine d_take 19 rfl (p_move rfl) rfl rfl rfl (by kernel_rfl) (fun _ h => h) ?_
        refine d_skip 20 rfl rfl rfl rfl rfl rfl (by kernel_rfl) (fun _ h => h) ?_
        refine d_skip 21 rfl rfl rfl rfl rfl rfl (by kernel_rfl) (fun _ h => h) ?_
        refine d_take 22 rfl (p_pickF rfl rfl) rfl rfl rfl (by kernel_rfl) (fun _ h => h) ?_
        refine d_done (by kernel_rfl) ?_
        refine x_next ?_
        refine c_false rfl ?_
        refine c_exit ?_
        refine x_exit_then ?_
        refine x_exit_then ?_
        refine x_exit_here ?_
        exact x_cut n (hn) ⟨rfl, rfl, rfl, rfl, rfl, rfl, trivial⟩ (f0)
      · have hq1 := hq.1
        refine c_draw 23 (own (.slice A1 m c1) 5 1 m (by8 lo) :: F) mixed ?_
        refine d_take 0 rfl (p_move rfl) rfl rfl rfl (by kernel_rfl) (fun _ h => h) ?_
        refine d_take 1 rfl (p_move rfl) rfl rfl rfl (by kernel_rfl) (fun _ h => h) ?_
        refine d_take 2 rfl (p_add rfl rfl (w64 (by omega))) rfl rfl rfl (by kernel_rfl) (fun _ h => h) ?_
        refine d_take 3 rfl (p_move rfl) rfl rfl rfl (by kernel_rfl) (fun _ h => h) ?_
        refine d_take 4 rfl (p_len Tryz.underlying23 rfl) rfl rfl rfl (by kernel_rfl) (fun _ h => h) ?_
        refine d_take 5 rfl (pb_true (p_lt rfl rfl) (by omega)) rfl rfl rfl (by kernel_rfl) (fun _ h => h) ?_
        refine d_take 6 rfl (p_move rfl) rfl rfl rfl (by kernel_rfl) (fun _ h => h) ?_
        refine d_takeg 7 rfl (p_move rfl) rfl rfl rfl rfl (by kernel_rfl) (fun _ h => h) ?_
        refine d_takeg 8 rfl (p_move rfl) rfl rfl rfl rfl (by kernel_rfl) (fun _ h => h) ?_
        refine d_takeg 9 rfl (p_move rfl) rfl rfl rfl rfl (by kernel_rfl) (fun _ h => h) ?_
        refine d_takeg 10 rfl (p_add rfl rfl (w64 (by omega))) rfl rfl rfl rfl (by kernel_rfl) (fun _ h => h) ?_
        refine d_takeg 11 rfl (p_index (kk := (k + n).toNat) Tryz.underlying23 sz5 rfl rfl (rd_tail hr) (by omega) (by omega) (by omega)) rfl rfl rfl rfl (by kernel_rfl) (fun _ h => h) ?_
        refine d_takeg 12 rfl (p_loadE Tryz.underlying5 rfl rfl (rd_tail hr) (by8_get (by omega))) rfl rfl rfl rfl (by kernel_rfl) (fun _ h => h) ?_
        refine d_takeg 13 rfl (p_move rfl) rfl rfl rfl rfl (by kernel_rfl) (fun _ h => h) ?_
        refine d_takeg 14 rfl (p_move rfl) rfl rfl rfl rfl (by kernel_rfl) (fun _ h => h) ?_
        refine d_takeg 15 rfl (p_index (kk := k.toNat) Tryz.underlying23 sz5 rfl rfl (rd_tail hr) (by omega) (by omega) (by omega)) rfl rfl rfl rfl (by kernel_rfl) (fun _ h => h) ?_
        refine d_takeg 16 rfl (p_loadE Tryz.underlying5 rfl rfl (rd_tail hr) (by8_get (by omega))) rfl rfl rfl rfl (by kernel_rfl) (fun _ h => h) ?_
        refine d_takeg 17 rfl (pb_false (p_eq rfl rfl) hq.2) rfl rfl rfl rfl (by kernel_rfl) (fun _ h => h) ?_
        refine d_take 18 rfl (p_pickT rfl rfl) rfl rfl rfl (by kernel_rfl) (fun _ h => h) ?_
        refine d_take 19 rfl (p_move rfl) rfl rfl rfl (by kernel_rfl) (fun _ h => h) ?_
        refine d_skip 20 rfl rfl rfl rfl rfl rfl (by kernel_rfl) (fun _ h => h) ?_
        refine d_skip 21 rfl rfl rfl rfl rfl rfl (by kernel_rfl) (fun _ h => h) ?_
        refine d_take 22 rfl (p_pickF rfl rfl) rfl rfl rfl (by kernel_rfl) (fun _ h => h) ?_
        refine d_done (by kernel_rfl) ?_
        refine x_next ?_
        refine c_false rfl ?_
        refine c_exit ?_
        refine x_exit_then ?_
        refine x_exit_then ?_
        refine x_exit_here ?_
        exact x_cut n (hn) ⟨rfl, rfl, rfl, rfl, rfl, rfl, trivial⟩ (f0)
      · have hq1 := hq.1
        refine c_draw 23 (own (.slice A1 m c1) 5 1 m (by8 lo) :: F) mixed ?_
        refine d_take 0 rfl (p_move rfl) rfl rfl rfl (by kernel_rfl) (fun _ h => h) ?_
        refine d_take 1 rfl (p_move rfl) rfl rfl rfl (by kernel_rfl) (fun _ h => h) ?_
        refine d_take 2 rfl (p_add rfl rfl (w64 (by omega))) rfl rfl rfl (by kernel_rfl) (fun _ h => h) ?_
        refine d_take 3 rfl (p_move rfl) rfl rfl rfl (by kernel_rfl) (fun _ h => h) ?_
        refine d_take 4 rfl (p_len Tryz.underlying23 rfl) rfl rfl rfl (by kernel_rfl) (fun _ h => h) ?_
        refine d_take 5 rfl (pb_true (p_lt rfl rfl) (by omega)) rfl rfl rfl (by kernel_rfl) (fun _ h => h) ?_
        refine d_take 6 rfl (p_move rfl) rfl rfl rfl (by kernel_rfl) (fun _ h => h) ?_
        refine d_takeg 7 rfl (p_move rfl) rfl rfl rfl rfl (by kernel_rfl) (fun _ h => h) ?_
        refine d_takeg 8 rfl (p_move rfl) rfl rfl rfl rfl (by kernel_rfl) (fun _ h => h) ?_
        refine d_takeg 9 rfl (p_move rfl) rfl rfl rfl rfl (by kernel_rfl) (fun _ h => h) ?_
        refine d_takeg 10 rfl (p_add rfl rfl (w64 (by omega))) rfl rfl rfl rfl (by kernel_rfl) (fun _ h => h) ?_
        refine d_takeg 11 rfl (p_index (kk := (k + n).toNat) Tryz.underlying23 sz5 rfl rfl (rd_tail hr) (by omega) (by omega) (by omega)) rfl rfl rfl rfl (by kernel_rfl) (fun _ h => h) ?_
        refine d_takeg 12 rfl (p_loadE Tryz.underlying5 rfl rfl (rd_tail hr) (by8_get (by omega))) rfl rfl rfl rfl (by kernel_rfl) (fun _ h => h) ?_
        refine d_takeg 13 rfl (p_move rfl) rfl rfl rfl rfl (by kernel_rfl) (fun _ h => h) ?_
        refine d_takeg 14 rfl (p_move rfl) rfl rfl rfl rfl (by kernel_rfl) (fun _ h => h) ?_
        refine d_takeg 15 rfl (p_index (kk := k.toNat) Tryz.underlying23 sz5 rfl rfl (rd_tail hr) (by omega) (by omega) (by omega)) rfl rfl rfl rfl (by kernel_rfl) (fun _ h => h) ?_
        refine d_takeg 16 rfl (p_loadE Tryz.underlying5 rfl rfl (rd_tail hr) (by8_get (by omega))) rfl rfl rfl rfl (by kernel_rfl) (fun _ h => h) ?_
        refine d_takeg 17 rfl (pb_true (p_eq rfl rfl) hq.2) rfl rfl rfl rfl (by kernel_rfl) (fun _ h => h) ?_
        refine d_take 18 rfl (p_pickT rfl rfl) rfl rfl rfl (by kernel_rfl) (fun _ h => h) ?_
        refine d_take 19 rfl (p_move rfl) rfl rfl rfl (by kernel_rfl) (fun _ h => h) ?_
        refine d_takeg 20 rfl (p_move rfl) rfl rfl rfl rfl (by kernel_rfl) (fun _ h => h) ?_
        refine d_takeg 21 rfl (p_lt rfl rfl) rfl rfl rfl rfl (by kernel_rfl) (fun _ h => h) ?_
        refine d_take 22 rfl (p_pickT rfl rfl) rfl rfl rfl (by kernel_rfl) (fun _ h => h) ?_
        refine d_done (by kernel_rfl) ?_
        refine x_next ?_
        refine c_if rfl (fun h37 => ?_) (fun h37 => ?_)
        · refine c_skip ?_
          refine x_next ?_
          refine c_block ?_
          refine c_region ?_
          refine s1 (p_move rfl) rfl rfl rfl ?_
          refine s1 (p_add rfl rfl (w64 (by omega))) rfl rfl rfl ?_
          refine s1 (p_assign rfl) rfl rfl rfl ?_
          refine s_nil ?_
          refine x_block ?_
          exact x_loop (n + 1) (⟨by omega, by omega, by omega⟩) (by first | omega | (dsimp only; omega)) ⟨rfl, rfl, rfl, rfl, rfl, rfl, trivial⟩ (f0)
        · refine c_exit ?_
          refine x_exit_then ?_
          refine x_exit_then ?_
          refine x_exit_here ?_
          exact x_cut n (hn) ⟨rfl, rfl, rfl, rfl, rfl, rfl, trivial⟩ (f0)
    · rintro n hI
      replace hI : 1 ≤ n ∧ k + n ≤ N ∧ n ≤ 128 := hI
      refine c_sub (L' := [(0, .slice A N c), (1, .int .i64 2), (2, .int .i64 1), (7, .slice A1 m c1), (8, .int .i64 k), (9, .int .i64 n)]) ⟨rfl, rfl, rfl, rfl, rfl, rfl, trivial⟩ ?_
      refine c_perm (T := own (.slice A1 m c1) 5 1 m (by8 lo) :: F) f0 ?_
      refine c_seq ?_
      refine c_seq ?_
      refine c_region ?_
      refine s1 (p_move rfl) rfl rfl rfl ?_
      refine s1 (p_and rfl rfl (show bAnd .i64 1 2 = 0 by decide)) rfl rfl rfl ?_
      refine s1 (pb_false (p_ne rfl rfl) (by omega)) rfl rfl rfl ?_
      refine s_nil ?_
      refine x_next ?_
      refine c_false rfl ?_
      refine c_skip ?_
      refine x_next ?_
      refine c_seq ?_
      refine c_seq ?_
      rcases (show n > 1 ∨ ¬ n > 1 from by omega) with hq | hq
      · refine c_region ?_
        refine s1 (p_move rfl) rfl rfl rfl ?_
        refine s1 (pb_true (p_gt rfl rfl) (by omega)) rfl rfl rfl ?_
        refine s1 (p_move rfl) rfl rfl rfl ?_
        refine sg1 (p_move rfl) rfl rfl rfl rfl ?_
        refine sg1 (p_and rfl rfl (show bAnd .i64 1 1 = 1 by decide)) rfl rfl rfl rfl ?_
        refine sg1 (pb_true (p_ne rfl rfl) (by omega)) rfl rfl rfl rfl ?_
        refine s1 (p_pickT rfl rfl) rfl rfl rfl ?_
        refine s_nil ?_
        refine x_next ?_
        refine c_true rfl ?_
        refine c_seq ?_
        refine c_region ?_
        refine s1 (p_move rfl) rfl rfl rfl ?_
        refine s1 (p_move rfl) rfl rfl rfl ?_
        refine s1 (p_sub rfl rfl (w64 (by omega))) rfl rfl rfl ?_
        refine s1 (p_conv Tryz.underlying3 Tryz.underlying5 rfl rfl) rfl rfl rfl ?_
        refine s1 (p_move rfl) rfl rfl rfl ?_
        refine s1 (p_move rfl) rfl rfl rfl ?_
        refine s1 (p_index (kk := k.toNat) Tryz.underlying23 sz5 rfl rfl (rd_tail hr) (by omega) (by omega) (by omega)) rfl rfl rfl ?_
        refine s1 (p_loadE Tryz.underlying5 rfl rfl (rd_tail hr) (by8_get (by omega))) rfl rfl rfl ?_
        refine s_step (st_buildSlice (e := 5) (size := 1) rfl (fun w => bs23_2 _ _ w) rfl (by omega)) rfl rfl rfl ?_
        rintro _ _ ⟨g1, rfl, rfl⟩
        refine s_perm f1 ?_
        refine s_step (st_append (xs := by8 lo) (ys := by8 [_, _]) Tryz.underlying23 inf5 rfl (by omega) rfl rfl (rd_own m1) (by8_one _) ⟨by omega, by omega⟩) rfl rfl rfl ?_
        rintro _ _ ⟨A2, c2, rfl, rfl⟩
        refine s_perm f1 ?_
        refine s_sat drop0 ?_
        rw [by8_append]
        refine s1 (p_assign rfl) rfl rfl rfl ?_
        refine s_nil ?_
        refine x_next ?_
        refine c_seq ?_
        refine c_region ?_
        refine s1 (p_move rfl) rfl rfl rfl ?_
        refine s1 (p_move rfl) rfl rfl rfl ?_
        refine s1 (p_add rfl rfl (w64 (by omega))) rfl rfl rfl ?_
        refine s1 (p_assign rfl) rfl rfl rfl ?_
        refine s_nil ?_
        refine x_next ?_
        refine c_exit ?_
        refine x_exit_then ?_
        refine x_exit_here ?_
        exact x_loop ⟨k + n, A2, m + 2, c2, lo ++ [_, _]⟩ (⟨by first | omega | (dsimp only; omega), by first | omega | (dsimp only; omega), by simp [h2], by first | omega | (dsimp only; omega), by intro _; dsimp only; omega⟩) (by first | omega | (dsimp only; omega)) ⟨rfl, rfl, rfl, rfl, rfl, trivial⟩ (f0)
      · refine c_region ?_
        refine s1 (p_move rfl) rfl rfl rfl ?_
        refine s1 (pb_false (p_gt rfl rfl) (by omega)) rfl rfl rfl ?_
        refine s1 (p_move rfl) rfl rfl rfl ?_
        refine s_skip rfl rfl rfl rfl rfl ?_
        refine s_skip rfl rfl rfl rfl rfl ?_
        refine s_skip rfl rfl rfl rfl rfl ?_
        refine s1 (p_pickF rfl rfl) rfl rfl rfl ?_
        refine s_nil ?_
        refine x_next ?_
        refine c_false rfl ?_
        refine c_skip ?_
        refine x_next ?_
        refine c_seq ?_
        obtain ⟨q, hq0⟩ : ∃ q : Int, q = min 2 ((N : Int) - k) := ⟨_, rfl⟩
        refine c_region ?_
        refine s1 (p_move rfl) rfl rfl rfl ?_
        refine s1 (p_move rfl) rfl rfl rfl ?_
        refine s1 (p_len Tryz.underlying23 rfl) rfl rfl rfl ?_
        refine s1 (p_move rfl) rfl rfl rfl ?_
        refine s1 (p_sub rfl rfl (w64 (by omega))) rfl rfl rfl ?_
        refine s1 (p_min rfl rfl ((itemin _ _).trans hq0.symm)) rfl rfl rfl ?_
        refine s1 (p_assign rfl) rfl rfl rfl ?_
        refine s_nil ?_
        refine x_next ?_
        refine c_seq ?_
        refine c_draw 14 (F) mixed ?_
        refine d_take 0 rfl (p_move rfl) rfl rfl rfl (by kernel_rfl) (fun _ h => Sat.tail (h)) ?_
        refine d_take 1 rfl (p_move rfl) rfl rfl rfl (by kernel_rfl) (fun _ h => Sat.tail (h)) ?_
        refine d_take 2 rfl (p_sub rfl rfl (w64 (by omega))) rfl rfl rfl (by kernel_rfl) (fun _ h => Sat.tail (h)) ?_
        refine d_take 3 rfl (p_conv Tryz.underlying3 Tryz.underlying5 rfl rfl) rfl rfl rfl (by kernel_rfl) (fun _ h => Sat.tail (h)) ?_
        refine d_take 6 rfl (p_move rfl) rfl rfl rfl (by kernel_rfl) (fun _ h => Sat.tail (h)) ?_
        refine d_take 7 rfl (p_move rfl) rfl rfl rfl (by kernel_rfl) (fun _ h => Sat.tail (h)) ?_
        refine d_take 8 rfl (p_move rfl) rfl rfl rfl (by kernel_rfl) (fun _ h => Sat.tail (h)) ?_
        refine d_take 9 rfl (p_move rfl) rfl rfl rfl (by kernel_rfl) (fun _ h => Sat.tail (h)) ?_
        refine d_take 10 rfl (p_add rfl rfl (w64 (by omega))) rfl rfl rfl (by kernel_rfl) (fun _ h => Sat.tail (h)) ?_
        refine d_take 11 rfl (p_slice (l := k.toNat) (h := (k + q).toNat) Tryz.underlying23 sz5 rfl rfl rfl (by omega) (by omega) (by omega) (by omega)) rfl rfl rfl (by kernel_rfl) (fun _ h => Sat.tail (h)) ?_
        refine d_step 4 rfl (by kernel_rfl) (st_buildSlice (e := 5) (size := 1) rfl (fun w => bs23_1 _ w) rfl (by omega)) rfl rfl rfl ?_
        rintro _ _ ⟨g1, rfl, rfl⟩
        refine ⟨fun _ => (fun _ h => Sat.tail (Sat.tail (h))), ?_⟩
        refine h_perm f1 ?_
        refine d_step 5 rfl (by kernel_rfl) (st_append (xs := by8 lo) Tryz.underlying23 inf5 rfl (by omega) rfl rfl (rd_own m1) (by simp [Value.oneCell']) ⟨by omega, by omega⟩) rfl rfl rfl ?_
        rintro _ _ ⟨A2, c2, rfl, rfl⟩
        refine ⟨fun _ => (fun _ h => Sat.tail (Sat.tail (h))), ?_⟩
        refine d_step 12 rfl (by kernel_rfl) (st_append Tryz.underlying23 inf5 rfl (by omega) rfl rfl (rd_slice8 (lo := k.toNat) (hi := (k + q).toNat) (rd_tail (rd_tail hr)) (by omega) (by omega)) (by8_one _) ⟨by omega, by omega⟩) rfl rfl rfl ?_
        rintro _ _ ⟨A3, c3, rfl, rfl⟩
        refine ⟨fun _ => (fun _ h => Sat.tail (Sat.tail (h))), ?_⟩
        refine h_perm f1 ?_
        refine h_sat drop0 ?_
        refine d_take 13 rfl (p_assign rfl) rfl rfl rfl (by kernel_rfl) (fun _ h => Sat.tail (h)) ?_
        refine d_done (by kernel_rfl) ?_
        refine x_next ?_
        refine c_region ?_
        refine s1 (p_move rfl) rfl rfl rfl ?_
        refine s1 (p_move rfl) rfl rfl rfl ?_
        refine s1 (p_add rfl rfl (w64 (by omega))) rfl rfl rfl ?_
        refine s1 (p_assign rfl) rfl rfl rfl ?_
        refine s_nil ?_
        refine x_block ?_
        rw [show by8 lo ++ [Value.int .u8 (IntKind.u8.wrap (q - 1))] ++ by8 ((l.drop k.toNat).take ((k + q).toNat - k.toNat)) = by8 (lo ++ [IntKind.u8.wrap (q - 1)] ++ ((l.drop k.toNat).take ((k + q).toNat - k.toNat))) from by simp [by8]]
        exact x_loop ⟨k + q, A3, m + 1 + ((k + q).toNat - k.toNat), c3, _⟩ (⟨by first | omega | (dsimp only; omega), by first | omega | (dsimp only; omega), by simp [h2]; omega, by first | omega | (dsimp only; omega), by intro _; dsimp only; omega⟩) (by first | omega | (dsimp only; omega)) ⟨rfl, rfl, rfl, rfl, rfl, trivial⟩ (f0)
  · refine c_exit ?_
    refine x_exit_then ?_
    refine x_exit_then ?_
    refine x_exit_here ?_
    refine x_next ?_
    refine c_seq ?_
    refine c_region ?_
    refine s1 (p_move rfl) rfl rfl rfl ?_
    refine s1 (p_assign rfl) rfl rfl rfl ?_
    refine s_nil ?_
    refine x_next ?_
    refine c_ret ?_
    exact x_done_one rfl rfl ⟨A1, c1, lo, m, h2, fun hN0 => h4 (by omega), by omega, rfl, rfl⟩

set_option maxRecDepth 100000 in
theorem lzwWidth_spec {S : List As} (known : Int) :
    Fun Tryz.prog 40 [.int .i64 known, .int .i64 8] (S) (fun u T => T = S ∧ ∃ n : Int, u = .int .i64 n ∧ 9 ≤ n ∧ n ≤ 12) := by
  refine fun_intro Tryz.func40 rfl Tryz.ntmps40 (Nat.le_of_ble_eq_true rfl) ?_
  refine c_seq ?_
  refine c_region ?_
  refine s1 (p_assign rfl) rfl rfl rfl ?_
  refine s_nil ?_
  refine x_next ?_
  refine c_seq ?_
  refine c_region ?_
  refine s1 (p_move rfl) rfl rfl rfl ?_
  refine s1 (p_add rfl rfl (w64 (by omega))) rfl rfl rfl ?_
  refine s1 (p_assign rfl) rfl rfl rfl ?_
  refine s_nil ?_
  refine x_next ?_
  refine c_seq ?_
  refine c_block ?_
  refine c_loop (α := (Int)) (fun gg => 9 ≤ gg ∧ gg ≤ 12) (fun gg => (12 - gg).toNat) (fun gg => [(0, .int .i64 known), (5, .int .i64 gg)]) (fun gg => S) 9 (⟨by omega, by omega⟩) ⟨rfl, rfl, trivial⟩ (f0) ?_
  rintro n hI
  replace hI : 9 ≤ n ∧ n ≤ 12 := hI
  obtain ⟨h0, h1⟩ := hI
  refine c_sub (L' := [(0, .int .i64 known), (5, .int .i64 n)]) ⟨rfl, rfl, trivial⟩ ?_
  refine c_perm (T := S) f0 ?_
  refine c_seq ?_
  refine c_seq ?_
  rcases Classical.em (known ≥ IntKind.i64.wrap (IntKind.i64.wrap (1 * 2 ^ min n.toNat IntKind.i64.bits) - 1)) with hq | hq
  · refine c_region ?_
    refine s1 (p_move rfl) rfl rfl rfl ?_
    refine s1 (p_move rfl) rfl rfl rfl ?_
    refine s1 (p_shl rfl rfl (by omega) rfl) rfl rfl rfl ?_
    refine s1 (p_sub rfl rfl rfl) rfl rfl rfl ?_
    refine s1 (pb_true (p_ge rfl rfl) hq) rfl rfl rfl ?_
    refine s1 (p_move rfl) rfl rfl rfl ?_
    refine sg1 (p_move rfl) rfl rfl rfl rfl ?_
    refine sg1 (p_lt rfl rfl) rfl rfl rfl rfl ?_
    refine s1 (p_pickT rfl rfl) rfl rfl rfl ?_
    refine s_nil ?_
    refine x_next ?_
    refine c_if rfl (fun h16 => ?_) (fun h16 => ?_)
    · refine c_skip ?_
      refine x_next ?_
      refine c_block ?_
      refine c_region ?_
      refine s1 (p_move rfl) rfl rfl rfl ?_
      refine s1 (p_add rfl rfl (w64 (by omega))) rfl rfl rfl ?_
      refine s1 (p_assign rfl) rfl rfl rfl ?_
      refine s_nil ?_
      refine x_block ?_
      exact x_loop (n + 1) (⟨by omega, by omega⟩) (by first | omega | (dsimp only; omega)) ⟨rfl, rfl, trivial⟩ (f0)
    · refine c_exit ?_
      refine x_exit_then ?_
      refine x_exit_then ?_
      refine x_exit_here ?_
      refine x_next ?_
      refine c_seq ?_
      refine c_region ?_
      refine s1 (p_move rfl) rfl rfl rfl ?_
      refine s1 (p_assign rfl) rfl rfl rfl ?_
      refine s_nil ?_
      refine x_next ?_
      refine c_ret ?_
      exact x_done_one rfl rfl ⟨rfl, n, rfl, h0, h1⟩
  · refine c_region ?_
    refine s1 (p_move rfl) rfl rfl rfl ?_
    refine s1 (p_move rfl) rfl rfl rfl ?_
    refine s1 (p_shl rfl rfl (by omega) rfl) rfl rfl rfl ?_
    refine s1 (p_sub rfl rfl rfl) rfl rfl rfl ?_
    refine s1 (pb_false (p_ge rfl rfl) hq) rfl rfl rfl ?_
    refine s1 (p_move rfl) rfl rfl rfl ?_
    refine s_skip rfl rfl rfl rfl rfl ?_
    refine s_skip rfl rfl rfl rfl rfl ?_
    refine s1 (p_pickF rfl rfl) rfl rfl rfl ?_
    refine s_nil ?_
    refine x_next ?_
    refine c_false rfl ?_
    refine c_exit ?_
    refine x_exit_then ?_
    refine x_exit_then ?_
    refine x_exit_here ?_
    refine x_next ?_
    refine c_seq ?_
    refine c_region ?_
    refine s1 (p_move rfl) rfl rfl rfl ?_
    refine s1 (p_assign rfl) rfl rfl rfl ?_
    refine s_nil ?_
    refine x_next ?_
    refine c_ret ?_
    exact x_done_one rfl rfl ⟨rfl, n, rfl, h0, h1⟩

set_option maxRecDepth 100000 in
theorem pword_spec {F : List As} (g n : Nat) (v kk : Int) (h0 : 1 ≤ kk) (h1 : kk ≤ 64) (hn : n ≤ 900000000) {S : List As} (hS : Wr 124 g n F S) :
    Fun Tryz.prog 39 [.pointer (some ⟨g, 0, none⟩), .int .i64 v, .int .i64 kk] (S) (fun u T => u = .tuple #[] ∧ Wr 124 g (n + kk.toNat) F T) := by
  refine fun_intro Tryz.func39 rfl Tryz.ntmps39 (Nat.le_of_ble_eq_true rfl) ?_
  refine c_seq ?_
  refine c_region ?_
  refine s1 (p_move rfl) rfl rfl rfl ?_
  refine s1 (p_sub rfl rfl (w64 (by omega))) rfl rfl rfl ?_
  refine s1 (p_assign rfl) rfl rfl rfl ?_
  refine s_nil ?_
  refine x_next ?_
  refine c_block ?_
  refine c_loop (α := (Nat) × (List As)) (fun gg => (gg.1 : Int) ≤ kk ∧ Wr 124 g (n + gg.1) F gg.2) (fun gg => (kk - gg.1).toNat) (fun gg => [(0, .pointer (some ⟨g, 0, none⟩)), (1, .int .i64 v), (6, .int .i64 (kk - 1 - (gg.1 : Int)))]) (fun gg => gg.2) ⟨0, S⟩ (⟨by first | omega | (dsimp only; omega), hS⟩) ⟨rfl, rfl, (by show some (Value.int .i64 (kk - 1)) = some (Value.int .i64 (kk - 1 - ((0 : Nat) : Int))); congr 2; omega), trivial⟩ (f0) ?_
  rintro ⟨j, T⟩ hI
  replace hI : (j : Int) ≤ kk ∧ Wr 124 g (n + j) F T := hI
  obtain ⟨hj, hT⟩ := hI
  refine c_sub (L' := [(0, .pointer (some ⟨g, 0, none⟩)), (1, .int .i64 v), (6, .int .i64 (kk - 1 - (j : Int)))]) ⟨rfl, rfl, rfl, trivial⟩ ?_
  refine c_perm (T := T) f0 ?_
  refine c_seq ?_
  refine c_seq ?_
  refine c_region ?_
  refine s1 (p_move rfl) rfl rfl rfl ?_
  refine s1 (p_ge rfl rfl) rfl rfl rfl ?_
  refine s_nil ?_
  refine x_next ?_
  refine c_if rfl (fun h10 => ?_) (fun h10 => ?_)
  · refine c_skip ?_
    refine x_next ?_
    refine c_seq ?_
    refine c_block ?_
    refine c_cut (α := (Option Addr) × (Nat) × (List Int)) (fun gg => gg.2.2.length = (n + j) / 8 + 1) (fun gg => [(0, .pointer (some ⟨g, 0, none⟩)), (1, .int .i64 v), (6, .int .i64 (kk - 1 - (j : Int)))]) (fun gg => blk g [.slice gg.1 ((n + j) / 8 + 1) gg.2.1, .int .i64 ((n + j : Nat) : Int)] 124 :: own (.slice gg.1 ((n + j) / 8 + 1) gg.2.1) 5 1 ((n + j) / 8 + 1) (by8 gg.2.2) :: F) ?_ ?_
    · refine c_seq ?_
      obtain ⟨A0, c0, l0, hl0, rfl⟩ := hT
      refine c_region ?_
      refine s1 (p_move rfl) rfl rfl rfl ?_
      refine s1 (p_nilCheck rfl) rfl rfl rfl ?_
      refine s1 (p_fieldAddr (fun w => fa124_1 _ w) rfl) rfl rfl rfl ?_
      refine s1 (p_load m0 Tryz.underlying3 rfl rfl rfl) rfl rfl rfl ?_
      refine s1 (p_and rfl rfl (bAnd7 (by omega) (by omega))) rfl rfl rfl ?_
      refine s1 (p_eq rfl rfl) rfl rfl rfl ?_
      refine s_nil ?_
      refine x_next ?_
      refine c_if rfl (fun h18 => ?_) (fun h18 => ?_)
      · refine c_region ?_
        refine s1 (p_move rfl) rfl rfl rfl ?_
        refine s1 (p_move rfl) rfl rfl rfl ?_
        refine s1 (p_nilCheck rfl) rfl rfl rfl ?_
        refine s1 (p_fieldAddr (fun w => fa124_0 _ w) rfl) rfl rfl rfl ?_
        refine s1 (p_load m0 Tryz.underlying23 rfl rfl rfl) rfl rfl rfl ?_
        refine s_step (st_buildSlice (e := 5) (size := 1) rfl (fun w => bs23_1 _ w) rfl (by omega)) rfl rfl rfl ?_
        rintro _ _ ⟨g1, rfl, rfl⟩
        refine s_perm f2 ?_
        refine s_step (st_append (v := .slice A0 ((n + j + 7) / 8) c0) (xs := by8 l0) (ys := [.int .u8 0]) Tryz.underlying23 inf5 rfl (by decide) rfl rfl (rd_own m1) (by simp [Value.oneCell']) ⟨by omega, by omega⟩) rfl rfl rfl ?_
        rintro _ _ ⟨A1, c1, rfl, rfl⟩
        refine s1 (p_nilCheck rfl) rfl rfl rfl ?_
        refine s1 (p_fieldAddr (fun w => fa124_0 _ w) rfl) rfl rfl rfl ?_
        refine s_perm f2 ?_
        refine s_step0 (st_store rfl rfl rfl sz23 (by simp)) rfl rfl ?_
        rintro _ _ rfl
        refine s_perm f2 ?_
        refine s_sat drop0 ?_
        refine s_nil ?_
        have e : by8 l0 ++ [.int .u8 0] = by8 (l0 ++ [0]) := by simp [by8]
        rw [e]
        have e2 : (n + j + 7) / 8 + 1 = (n + j) / 8 + 1 := by omega
        rw [e2]
        exact x_cut ⟨A1, c1, l0 ++ [0]⟩ (by simp [hl0]; omega) ⟨rfl, rfl, rfl, trivial⟩ ((f1).trans f1)
      · refine c_skip ?_
        have e2 : (n + j + 7) / 8 = (n + j) / 8 + 1 := by omega
        rw [e2]
        exact x_cut ⟨A0, c0, l0⟩ (by rw [hl0]; omega) ⟨rfl, rfl, rfl, trivial⟩ ((f1).trans f1)
    · rintro ⟨A, c, l⟩ hI
      replace hI : l.length = (n + j) / 8 + 1 := hI
      have hl := hI
      refine c_sub (L' := [(0, .pointer (some ⟨g, 0, none⟩)), (1, .int .i64 v), (6, .int .i64 (kk - 1 - (j : Int)))]) ⟨rfl, rfl, rfl, trivial⟩ ?_
      refine c_perm (T := blk g [.slice A ((n + j) / 8 + 1) c, .int .i64 ((n + j : Nat) : Int)] 124 :: own (.slice A ((n + j) / 8 + 1) c) 5 1 ((n + j) / 8 + 1) (by8 l) :: F) f0 ?_
      refine c_seq ?_
      refine c_draw 25 (blk g [.slice A ((n + j) / 8 + 1) c, .int .i64 ((n + j : Nat) : Int)] 124 :: own (.slice A ((n + j) / 8 + 1) c) 5 1 ((n + j) / 8 + 1) (by8 l) :: F) mixed ?_
      refine d_take 0 rfl (p_move rfl) rfl rfl rfl (by kernel_rfl) (fun _ h => h) ?_
      refine d_take 1 rfl (p_nilCheck rfl) rfl rfl rfl (by kernel_rfl) (fun _ h => h) ?_
      refine d_take 2 rfl (p_fieldAddr (fun w => fa124_0 _ w) rfl) rfl rfl rfl (by kernel_rfl) (fun _ h => h) ?_
      refine d_take 3 rfl (p_load m0 Tryz.underlying23 rfl rfl rfl) rfl rfl rfl (by kernel_rfl) (fun _ h => h) ?_
      refine d_take 4 rfl (p_move rfl) rfl rfl rfl (by kernel_rfl) (fun _ h => h) ?_
      refine d_take 5 rfl (p_nilCheck rfl) rfl rfl rfl (by kernel_rfl) (fun _ h => h) ?_
      refine d_take 6 rfl (p_fieldAddr (fun w => fa124_1 _ w) rfl) rfl rfl rfl (by kernel_rfl) (fun _ h => h) ?_
      refine d_take 7 rfl (p_load m0 Tryz.underlying3 rfl rfl rfl) rfl rfl rfl (by kernel_rfl) (fun _ h => h) ?_
      refine d_take 8 rfl (p_shr rfl rfl (by omega) (shr3 (by omega))) rfl rfl rfl (by kernel_rfl) (fun _ h => h) ?_
      refine d_take 9 rfl (p_index (kk := (n + j) / 8) Tryz.underlying23 sz5 rfl rfl (rd_own m1) (by omega) (by omega) (by omega)) rfl rfl rfl (by kernel_rfl) (fun _ h => h) ?_
      refine d_take 10 rfl (p_loadE Tryz.underlying5 rfl rfl (rd_own m1) (by8_get (by omega))) rfl rfl rfl (by kernel_rfl) (fun _ h => h) ?_
      refine d_take 11 rfl (p_move rfl) rfl rfl rfl (by kernel_rfl) (fun _ h => h) ?_
      refine d_take 12 rfl (p_move rfl) rfl rfl rfl (by kernel_rfl) (fun _ h => h) ?_
      refine d_take 13 rfl (p_shr rfl rfl (by omega) rfl) rfl rfl rfl (by kernel_rfl) (fun _ h => h) ?_
      refine d_take 14 rfl (p_and rfl rfl rfl) rfl rfl rfl (by kernel_rfl) (fun _ h => h) ?_
      refine d_take 15 rfl (p_conv Tryz.underlying3 Tryz.underlying5 rfl rfl) rfl rfl rfl (by kernel_rfl) (fun _ h => h) ?_
      refine d_take 16 rfl (p_move rfl) rfl rfl rfl (by kernel_rfl) (fun _ h => h) ?_
      refine d_take 17 rfl (p_nilCheck rfl) rfl rfl rfl (by kernel_rfl) (fun _ h => h) ?_
      refine d_take 18 rfl (p_fieldAddr (fun w => fa124_1 _ w) rfl) rfl rfl rfl (by kernel_rfl) (fun _ h => h) ?_
      refine d_take 19 rfl (p_load m0 Tryz.underlying3 rfl rfl rfl) rfl rfl rfl (by kernel_rfl) (fun _ h => h) ?_
      refine d_take 20 rfl (p_and rfl rfl (bAnd7 (by omega) (by omega))) rfl rfl rfl (by kernel_rfl) (fun _ h => h) ?_
      refine d_take 21 rfl (p_sub rfl rfl (w64 (by omega))) rfl rfl rfl (by kernel_rfl) (fun _ h => h) ?_
      refine d_take 22 rfl (p_shl rfl rfl (by omega) rfl) rfl rfl rfl (by kernel_rfl) (fun _ h => h) ?_
      refine d_take 23 rfl (p_or rfl rfl rfl) rfl rfl rfl (by kernel_rfl) (fun _ h => h) ?_
      refine d_take 24 rfl (p_index (kk := (n + j) / 8) Tryz.underlying23 sz5 rfl rfl (rd_own m1) (by omega) (by omega) (by omega)) rfl rfl rfl (by kernel_rfl) (fun _ h => h) ?_
      refine h_perm f1 ?_
      refine d_step0 25 rfl (by kernel_rfl) (st_storeE rfl rfl rfl sz5 (by omega)) rfl rfl ?_
      rintro _ _ rfl
      refine ⟨fun h => absurd rfl h, ?_⟩
      refine d_done (by kernel_rfl) ?_
      rw [by8_set]
      refine x_next ?_
      refine c_region ?_
      refine s1 (p_move rfl) rfl rfl rfl ?_
      refine s1 (p_nilCheck rfl) rfl rfl rfl ?_
      refine s1 (p_fieldAddr (fun w => fa124_1 _ w) rfl) rfl rfl rfl ?_
      refine s1 (p_load m1 Tryz.underlying3 rfl rfl rfl) rfl rfl rfl ?_
      refine s1 (p_add rfl rfl (w64 (by omega))) rfl rfl rfl ?_
      refine s1 (p_nilCheck rfl) rfl rfl rfl ?_
      refine s1 (p_fieldAddr (fun w => fa124_1 _ w) rfl) rfl rfl rfl ?_
      refine s_perm f1 ?_
      refine s_step0 (st_store rfl rfl rfl sz3 (by simp)) rfl rfl ?_
      rintro _ _ rfl
      refine s_nil ?_
      refine x_block ?_
      refine x_next ?_
      refine c_region ?_
      refine s1 (p_move rfl) rfl rfl rfl ?_
      refine s1 (p_sub rfl rfl (w64 (by omega))) rfl rfl rfl ?_
      refine s1 (p_assign rfl) rfl rfl rfl ?_
      refine s_nil ?_
      exact x_loop ⟨j + 1, _⟩ (⟨by first | omega | (dsimp only; omega), wr_mk (m := (n + j) / 8 + 1) (by omega) (by simp [hl])⟩) (by first | omega | (dsimp only; omega)) ⟨rfl, rfl, (by show some (Value.int .i64 (kk - 1 - (j : Int) - 1)) = some (Value.int .i64 (kk - 1 - ((j + 1 : Nat) : Int))); congr 2; omega), trivial⟩ (f0)
  · refine c_exit ?_
    refine x_exit_then ?_
    refine x_exit_then ?_
    refine x_exit_here ?_
    obtain ⟨k, rfl⟩ := Int.eq_ofNat_of_zero_le (show 0 ≤ kk by omega)
    obtain rfl : j = k := by omega
    exact x_done_none rfl ⟨rfl, hT⟩

end V
end Go.Proofs.YtaflcjoagfnhfaaGreatDoor
