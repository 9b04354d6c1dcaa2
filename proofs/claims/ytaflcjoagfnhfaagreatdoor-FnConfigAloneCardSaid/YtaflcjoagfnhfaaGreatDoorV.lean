/- A walk: an entry of a directory is read. -/
import Derived.Test.YtaflcjoagfnhfaaGreatDoorU
namespace Go.Proofs.YtaflcjoagfnhfaaGreatDoor
namespace V
open Go Go.Proofs

section
variable {P : Program} {L : Env} {S : List As} {dst : Option Tmp} {ty : TypeId} {pos : String} {af : Array Edge} {gd : Option (Nat × Bool)}
theorem p_indexArr {x i : Operand} {t e : TypeId} {n kk g : Nat} {k : IntKind} {j : Int} (ht : P.underlying t = some (.array n e)) (hz : (P.info? e).map (·.size) = some 1) (hx : ev L x = some (.pointer (some ⟨g, 0, none⟩))) (hi : ev L i = some (.int k j)) (h0 : 0 ≤ j) (h1 : j < n) (hk : j.toNat = kk) :
    Pure1 P L S ⟨dst, .indexAddr t x i, ty, pos, af, gd⟩ (.pointer (some ⟨g, kk, none⟩)) := by
  intro ρ w hA hS
  have hsz : (sizeOf e).run P w = .ok 1 w := by
    obtain ⟨i0, hi0, hi1⟩ := Option.map_eq_some_iff.1 hz
    simp [sizeOf, typeInfo, hi0, hi1]
  have hadd : (⟨g, 0, none⟩ : Addr).add kk = ⟨g, kk, none⟩ := by rw [add_lit', Nat.zero_add]
  have hrun : (Instr.indexAt t (.pointer (some ⟨g, 0, none⟩)) (.int k j)).run P w = .ok (.pointer (some ⟨g, kk, none⟩)) w := by
    simp [Instr.indexAt, asIntOf, Instr.sureAddr, run_underlying ht, h0, h1, hsz, hk, hadd]
  simp [execOp, hA x _ hx, hA i _ hi, hrun]
theorem p_loadC {x : Operand} {T : TypeId} {d : TypeDesc} {a : Addr} {u : Value} (ht : P.underlying T = some d) (hd : scalar d = true) (hx : ev L x = some (.pointer (some a))) (hc : ∀ w, Sat w S → w.cell? a = some u) : Pure1 P L S ⟨dst, .load T x, ty, pos, af, gd⟩ u := by
  intro ρ w hA hS
  simp [execOp, hA x _ hx, Instr.loadAt, Instr.sureAddr, run_loadScalar ht hd (hc w hS)]
end
theorem mulU {a b q : Nat} (h : a * b = q) (hb : q ≤ 4294967295) : IntKind.u32.wrap ((a : Int) * (b : Int)) = (q : Int) := by
  rw [wu32 (by rw [← Int.natCast_mul, h]; omega), ← Int.natCast_mul, h]
def u64L (l : List Int) : List Value := l.map (Value.int .u64 ·)
theorem u64L_set (l : List Int) (k : Nat) (x : Int) : (u64L l).set k (.int .u64 x) = u64L (l.set k x) := by simp [u64L]
theorem u64L_get {l : List Int} {k : Nat} (h : k < l.length) : (u64L l)[k]? = some (.int .u64 (l.getD k 0)) := by
  simp [u64L, List.getElem?_eq_getElem h, List.getD_eq_getElem?_getD]
theorem set_take {l m : List Int} {i : Nat} (hl : i < l.length) (hm : i < m.length) (h : l.take i = m.take i) : (l.set i (m.getD i 0)).take (i + 1) = m.take (i + 1) := by
  rw [List.take_add_one, List.take_add_one, List.take_set_of_le (Nat.le_refl _), h, List.getElem?_set_self hl, List.getElem?_eq_getElem hm, List.getD_eq_getElem?_getD, List.getElem?_eq_getElem hm]
  rfl
theorem flat_cut {big : Bool} {s : Nat} : ∀ {l : List Int} {i : Nat}, i < l.length → ((l.flatMap (num big s)).drop (s * i)).take s = num big s (l.getD i 0)
  | [], i, h => by simp at h
  | x :: r, 0, _ => by
    rw [Nat.mul_zero, List.drop_zero, List.flatMap_cons, List.take_append_of_le_length (by rw [num_length]; exact Nat.le_refl _), List.take_of_length_le (by rw [num_length]; exact Nat.le_refl _)]
    rfl
  | x :: r, i + 1, h => by
    rw [List.flatMap_cons, List.drop_append, num_length, List.drop_of_length_le (by rw [num_length, Nat.mul_succ]; omega), List.nil_append, show s * (i + 1) - s = s * i by rw [Nat.mul_succ]; omega]
    rw [flat_cut (by simpa using h)]
    rfl
theorem Placed.len {big : Bool} {base : Int} {tail p : List Int} {e : Ent} (h : Placed big base tail p e) : p.length = 12 := by
  rcases h with ⟨h, rfl⟩ | ⟨_, o, rfl, _⟩
  · rw [List.length_append, Ent.head_length, List.length_append, List.length_replicate]; omega
  · rw [List.length_append, Ent.head_length, num_length]
theorem head_cut (big : Bool) (e : Ent) (x : List Int) : ((e.head big ++ x).drop 0).take 2 = num big 2 e.tag ∧ ((e.head big ++ x).drop 2).take 2 = num big 2 e.kind ∧ ((e.head big ++ x).drop 4).take 4 = num big 4 (e.nums.length : Int) ∧ (e.head big ++ x).drop 8 = x := by
  refine ⟨?_, ?_, ?_, ?_⟩
  · unfold Ent.head
    rw [List.drop_zero, List.append_assoc, List.take_append_of_le_length (by rw [num_length]; exact Nat.le_refl _), List.take_of_length_le (by rw [num_length]; exact Nat.le_refl _)]
  · unfold Ent.head
    rw [List.append_assoc, List.drop_append, num_length, List.drop_of_length_le (by rw [num_length]; exact Nat.le_refl _), List.nil_append, Nat.sub_self, List.drop_zero, List.append_assoc, List.take_append_of_le_length (by rw [num_length]; exact Nat.le_refl _), List.take_of_length_le (by rw [num_length]; exact Nat.le_refl _)]
  · unfold Ent.head
    rw [List.append_assoc, List.drop_append, num_length, List.drop_of_length_le (by rw [num_length]; omega), List.nil_append, List.append_assoc, List.drop_append, num_length, List.drop_of_length_le (by rw [num_length]; omega), List.nil_append,
      show 4 - 2 - 2 = 0 from rfl, List.drop_zero, List.take_append_of_le_length (by rw [num_length]; exact Nat.le_refl _), List.take_of_length_le (by rw [num_length]; exact Nat.le_refl _)]
  · rw [List.drop_append, Ent.head_length, List.drop_of_length_le (by rw [Ent.head_length]; exact Nat.le_refl _), List.nil_append, Nat.sub_self, List.drop_zero]
theorem Placed.cut {big : Bool} {base : Int} {tail p : List Int} {e : Ent} (h : Placed big base tail p e) : (p.drop 0).take 2 = num big 2 e.tag ∧ (p.drop 2).take 2 = num big 2 e.kind ∧ (p.drop 4).take 4 = num big 4 (e.nums.length : Int) := by
  rcases h with ⟨h, rfl⟩ | ⟨_, o, rfl, _⟩
  · have := head_cut big e (e.body big ++ List.replicate (4 - (e.body big).length) 0); exact ⟨this.1, this.2.1, this.2.2.1⟩
  · have := head_cut big e (num big 4 (base + (o : Int))); exact ⟨this.1, this.2.1, this.2.2.1⟩
theorem Placed.small {big : Bool} {base : Int} {tail p : List Int} {e : Ent} (h : Placed big base tail p e) (hl : (e.body big).length ≤ 4) : (p.drop 8).take (e.body big).length = e.body big := by
  rcases h with ⟨_, rfl⟩ | ⟨h, _⟩
  · rw [(head_cut big e _).2.2.2, List.take_append_of_le_length (Nat.le_refl _), List.take_length]
  · omega
theorem Placed.great {big : Bool} {base : Int} {tail p : List Int} {e : Ent} (h : Placed big base tail p e) (hl : 4 < (e.body big).length) :
    ∃ o : Nat, (p.drop 8).take 4 = num big 4 (base + (o : Int)) ∧ (tail.drop o).take (e.body big).length = e.body big ∧ o + (e.body big).length ≤ tail.length := by
  rcases h with ⟨h, _⟩ | ⟨_, o, rfl, h2, h3⟩
  · omega
  · exact ⟨o, by rw [(head_cut big e _).2.2.2, List.take_of_length_le (by rw [num_length]; exact Nat.le_refl _)], h2, h3⟩
/-- The table of the types' sizes. -/
def lens : List Value := [.int .u32 0, .int .u32 1, .int .u32 1, .int .u32 2, .int .u32 4, .int .u32 8]
theorem back1 {w : World} {a : As} {F G : List As} (h : Sat w (a :: G)) (hs : ∀ B, B ∈ F → B ∈ G) (hw : ∀ w, Sat w G → Sat w F) : Sat w (a :: F) := h.perm_cons (fun B hB => hs B hB) (hw w h.tail)
theorem num_nonneg_of {l : List Int} {p : Int → Prop} (h : ∀ x ∈ l, p x) {i : Nat} (hi : i < l.length) : p (l.getD i 0) := by
  rw [List.getD_eq_getElem?_getD, List.getElem?_eq_getElem hi]; exact h _ (List.getElem_mem hi)

set_option maxHeartbeats 1000000 in
set_option maxRecDepth 100000 in
theorem ifd_spec {F : List As} (gd gr : Nat) (dcs : List Value) (big : Bool) (hD : blk gd dcs 80 ∈ F) (hd0 : dcs[0]? = some (.iface 53 (.pointer (some ⟨gr, 0, none⟩)))) (hd1 : dcs[1]? = some (ordV big)) (A : Option Addr) (N c : Nat) (l : List Int) (hl : l.length = N) (hN : N ≤ 1000000000) (hb : blk gr [.slice A N c, .int .i64 0, .int .i64 (-1)] 82 ∈ F) (hr : ∀ w, Sat w F → Reads w (.slice A N c) 1 N (by8 l)) (hlen : ∀ w, Sat w F → ∀ o u, lens[o]? = some u → w.cell? ⟨5, o, none⟩ = some u) (pA : Option Addr) (pc : Nat) (p : List Int) (hp : ∀ w, Sat w F → Reads w (.slice pA 12 pc) 1 12 (by8 p)) (base : Nat) (tail : List Int) (hbase : l.drop base = tail) (hbN : base ≤ N) (tg kd : Int) (nm : List Int) (hpl : Placed big (base : Int) tail p ⟨tg, kd, nm⟩) (hk : kd = 3 ∨ kd = 4) (hn : 1 ≤ nm.length ∧ nm.length ≤ 1000) (hv : ∀ x ∈ nm, 0 ≤ x ∧ x ≤ (if kd = 4 then 4294967295 else 65535)) :
    Fun Tryz.prog 46 [.pointer (some ⟨gd, 0, none⟩), .slice pA 12 pc] (F) (fun u T => ∃ U uc, u = .tuple #[.slice U nm.length uc, .nilIface] ∧ T = own (.slice U nm.length uc) 59 1 nm.length (u64L nm) :: F) := by
  obtain ⟨n, hnn⟩ : ∃ n, nm.length = n := ⟨_, rfl⟩
  obtain ⟨s, hks⟩ : ∃ s : Nat, (kd = 3 ∧ s = 2) ∨ (kd = 4 ∧ s = 4) := by
    rcases hk with h | h
    · exact ⟨2, .inl ⟨h, rfl⟩⟩
    · exact ⟨4, .inr ⟨h, rfl⟩⟩
  have hsz : Ent.size ⟨tg, kd, nm⟩ = s := by unfold Ent.size; rcases hks with ⟨h, h2⟩ | ⟨h, h2⟩ <;> rw [h2] <;> simp [h]
  obtain ⟨BL, hBL⟩ : ∃ q, s * n = q := ⟨_, rfl⟩
  obtain ⟨B, hB⟩ : ∃ B, B = Ent.body big ⟨tg, kd, nm⟩ := ⟨_, rfl⟩
  have hBl : B = nm.flatMap (num big s) := by rw [hB]; unfold Ent.body; rw [hsz]
  have hBLb : (Ent.body big ⟨tg, kd, nm⟩).length = BL := by rw [Ent.body_length, hsz, ← hBL, ← hnn, Nat.mul_comm]
  have hBL2 : BL ≤ 4 * n := by rw [← hBL]; exact Nat.mul_le_mul_right _ (by omega)
  have hBL3 : 2 * n ≤ BL := by rw [← hBL]; exact Nat.mul_le_mul_right _ (by omega)
  have hcut := hpl.cut
  simp only at hcut
  rw [hnn] at hcut hn ⊢
  have hsm : BL ≤ 4 → (p.drop 8).take BL = B := fun h => by rw [hB, ← hBLb]; exact hpl.small (by omega)
  have hls : lens[kd.toNat]? = some (.int .u32 (s : Int)) := by rcases hks with ⟨h, h2⟩ | ⟨h, h2⟩ <;> rw [h, h2] <;> rfl
  refine fun_intro Tryz.func46 rfl Tryz.ntmps46 (Nat.le_of_ble_eq_true rfl) ?_
  refine c_have (p := 12 ≤ pc) (fun w h => (hp w h).cap) ?_
  intro hpcap
  refine c_seq ?_
  refine c_region ?_
  refine s1 (p_assign rfl) rfl rfl rfl ?_
  refine s1 (p_assign rfl) rfl rfl rfl ?_
  refine s_nil ?_
  refine x_next ?_
  refine c_seq ?_
  refine c_region ?_
  refine s1 (p_assign rfl) rfl rfl rfl ?_
  refine s_nil ?_
  refine x_next ?_
  refine c_seq ?_
  refine c_seq ?_
  refine c_region ?_
  refine s1 (p_move rfl) rfl rfl rfl ?_
  refine s1 (p_len Tryz.underlying23 rfl) rfl rfl rfl ?_
  refine s1 (pb_false (p_lt rfl rfl) (by omega)) rfl rfl rfl ?_
  refine s_nil ?_
  refine x_next ?_
  refine c_false rfl ?_
  refine c_skip ?_
  refine x_next ?_
  refine c_seq ?_
  refine c_draw 10 (F) mixed ?_
  refine d_take 0 rfl (p_move rfl) rfl rfl rfl (by kernel_rfl) (fun _ h => h) ?_
  refine d_take 1 rfl (p_nilCheck rfl) rfl rfl rfl (by kernel_rfl) (fun _ h => h) ?_
  refine d_take 2 rfl (p_fieldAddr (fun w => fa80_1 _ w) rfl) rfl rfl rfl (by kernel_rfl) (fun _ h => h) ?_
  refine d_take 3 rfl (p_load hD Tryz.underlying76 rfl rfl hd1) rfl rfl rfl (by kernel_rfl) (fun _ h => h) ?_
  refine d_take 4 rfl (p_move rfl) rfl rfl rfl (by kernel_rfl) (fun _ h => h) ?_
  refine d_take 5 rfl (p_slice (l := 2) (h := 4) Tryz.underlying23 sz5 rfl rfl rfl rfl rfl (by omega) (by omega)) rfl rfl rfl (by kernel_rfl) (fun _ h => h) ?_
  refine d_take 6 rfl (p_nilCheckI rfl) rfl rfl rfl (by kernel_rfl) (fun _ h => h) ?_
  refine d_take 7 rfl (p_move rfl) rfl rfl rfl (by kernel_rfl) (fun _ h => h) ?_
  refine d_step 8 rfl (by kernel_rfl) (st_u16 (big := big) (v := kd) (by omega) (by omega) rfl rfl (fun w h => by have := rd_slice8 (lo := 2) (hi := 4) hp (by omega) (by omega) w h; rwa [show 4 - 2 = 2 from rfl, hcut.2.1] at this)) rfl rfl rfl ?_
  rintro _ T1 ⟨rfl, hW⟩
  subst T1
  refine ⟨fun _ => (fun _ h => h), ?_⟩
  refine d_take 9 rfl (p_assign rfl) rfl rfl rfl (by kernel_rfl) (fun _ h => h) ?_
  refine d_done (by kernel_rfl) ?_
  refine x_next ?_
  refine c_seq ?_
  refine c_seq ?_
  refine c_region ?_
  refine s1 (p_move rfl) rfl rfl rfl ?_
  refine s1 (p_conv Tryz.underlying100 Tryz.underlying3 rfl (w64 (by omega))) rfl rfl rfl ?_
  refine s1 (p_assign rfl) rfl rfl rfl ?_
  refine s_nil ?_
  refine x_next ?_
  refine c_seq ?_
  refine c_region ?_
  refine s1 (p_move rfl) rfl rfl rfl ?_
  refine s1 (pb_false (p_le rfl rfl) (by omega)) rfl rfl rfl ?_
  refine s1 (p_move rfl) rfl rfl rfl ?_
  refine sg1 (p_move rfl) rfl rfl rfl rfl ?_
  refine sg1 (pb_false (p_ge rfl rfl) (by omega)) rfl rfl rfl rfl ?_
  refine s1 (p_pickF rfl rfl) rfl rfl rfl ?_
  refine s_nil ?_
  refine x_next ?_
  refine c_false rfl ?_
  refine c_skip ?_
  refine x_next ?_
  refine c_seq ?_
  refine c_draw 10 (F) mixed ?_
  refine d_take 0 rfl (p_move rfl) rfl rfl rfl (by kernel_rfl) (fun _ h => h) ?_
  refine d_take 1 rfl (p_nilCheck rfl) rfl rfl rfl (by kernel_rfl) (fun _ h => h) ?_
  refine d_take 2 rfl (p_fieldAddr (fun w => fa80_1 _ w) rfl) rfl rfl rfl (by kernel_rfl) (fun _ h => h) ?_
  refine d_take 3 rfl (p_load hD Tryz.underlying76 rfl rfl hd1) rfl rfl rfl (by kernel_rfl) (fun _ h => h) ?_
  refine d_take 4 rfl (p_move rfl) rfl rfl rfl (by kernel_rfl) (fun _ h => h) ?_
  refine d_take 5 rfl (p_slice (l := 4) (h := 8) Tryz.underlying23 sz5 rfl rfl rfl rfl rfl (by omega) (by omega)) rfl rfl rfl (by kernel_rfl) (fun _ h => h) ?_
  refine d_take 6 rfl (p_nilCheckI rfl) rfl rfl rfl (by kernel_rfl) (fun _ h => h) ?_
  refine d_take 7 rfl (p_move rfl) rfl rfl rfl (by kernel_rfl) (fun _ h => h) ?_
  refine d_step 8 rfl (by kernel_rfl) (st_u32 (big := big) (v := (n : Int)) (by omega) (by omega) rfl rfl (fun w h => by have := rd_slice8 (lo := 4) (hi := 8) hp (by omega) (by omega) w h; rwa [show 8 - 4 = 4 from rfl, hcut.2.2] at this)) rfl rfl rfl ?_
  rintro _ T1 ⟨rfl, hW⟩
  subst T1
  refine ⟨fun _ => (fun _ h => h), ?_⟩
  refine d_take 9 rfl (p_assign rfl) rfl rfl rfl (by kernel_rfl) (fun _ h => h) ?_
  refine d_done (by kernel_rfl) ?_
  refine x_next ?_
  refine c_seq ?_
  refine c_seq ?_
  refine c_region ?_
  refine s1 (p_move rfl) rfl rfl rfl ?_
  refine s1 (p_move rfl) rfl rfl rfl ?_
  refine s1 (p_indexArr (kk := kd.toNat) Tryz.underlying155 sz22 rfl rfl (by omega) (by omega) rfl) rfl rfl rfl ?_
  refine s1 (p_loadC (u := .int .u32 (s : Int)) Tryz.underlying22 rfl rfl (fun w h => hlen w h _ _ hls)) rfl rfl rfl ?_
  refine s1 (p_quo rfl rfl (by omega) (qu32 (by omega))) rfl rfl rfl ?_
  refine s1 (pb_false (p_gt rfl rfl) (by rcases hks with ⟨_, h⟩ | ⟨_, h⟩ <;> rw [h] <;> omega)) rfl rfl rfl ?_
  refine s_nil ?_
  refine x_next ?_
  refine c_false rfl ?_
  refine c_skip ?_
  refine x_next ?_
  refine c_cut (α := (Option Addr) × (Nat) × (List As)) (fun gg => (∀ w, Sat w gg.2.2 → Reads w (.slice gg.1 BL gg.2.1) 1 BL (by8 B)) ∧ (∀ C, C ∈ F → C ∈ gg.2.2) ∧ (∀ w, Sat w gg.2.2 → Sat w F)) (fun gg => [(0, .pointer (some ⟨gd, 0, none⟩)), (5, .nilIface), (6, .slice gg.1 BL gg.2.1), (7, .int .u16 kd), (9, .int .u32 (n : Int))]) (fun gg => gg.2.2) ?_ ?_
  · refine c_seq ?_
    refine c_region ?_
    refine s1 (p_move rfl) rfl rfl rfl ?_
    refine s1 (p_indexArr (kk := kd.toNat) Tryz.underlying155 sz22 rfl rfl (by omega) (by omega) rfl) rfl rfl rfl ?_
    refine s1 (p_loadC (u := .int .u32 (s : Int)) Tryz.underlying22 rfl rfl (fun w h => hlen w h _ _ hls)) rfl rfl rfl ?_
    refine s1 (p_move rfl) rfl rfl rfl ?_
    refine s1 (p_mul rfl rfl (mulU hBL (by omega))) rfl rfl rfl ?_
    refine s1 (p_assign rfl) rfl rfl rfl ?_
    refine s_nil ?_
    refine x_next ?_
    refine c_seq ?_
    refine c_region ?_
    refine s1 (p_move rfl) rfl rfl rfl ?_
    refine s1 (p_gt rfl rfl) rfl rfl rfl ?_
    refine s_nil ?_
    refine x_next ?_
    refine c_if rfl (fun h58 => ?_) (fun h58 => ?_)
    · obtain ⟨o, ho1, ho2, ho3⟩ := hpl.great (show 4 < (Ent.body big ⟨tg, kd, nm⟩).length by omega)
      rw [← hB, ← hbase, List.drop_drop] at ho2
      rw [hBLb, ← hbase, List.length_drop, hl] at ho3
      have hBq : B.length = BL := by rw [hB]; exact hBLb
      rw [hBq] at ho2
      refine c_draw 22 (F) mixed ?_
      refine d_take 0 rfl (p_move rfl) rfl rfl rfl (by kernel_rfl) (fun _ h => h) ?_
      refine d_take 1 rfl (p_nilCheck rfl) rfl rfl rfl (by kernel_rfl) (fun _ h => h) ?_
      refine d_take 2 rfl (p_fieldAddr (fun w => fa80_0 _ w) rfl) rfl rfl rfl (by kernel_rfl) (fun _ h => h) ?_
      refine d_take 3 rfl (p_load hD Tryz.underlying74 rfl rfl hd0) rfl rfl rfl (by kernel_rfl) (fun _ h => h) ?_
      refine d_take 4 rfl (p_move rfl) rfl rfl rfl (by kernel_rfl) (fun _ h => h) ?_
      refine d_take 5 rfl (p_conv Tryz.underlying22 Tryz.underlying104 rfl (wu64 (by omega))) rfl rfl rfl (by kernel_rfl) (fun _ h => h) ?_
      refine d_take 6 rfl (p_move rfl) rfl rfl rfl (by kernel_rfl) (fun _ h => h) ?_
      refine d_take 7 rfl (p_nilCheck rfl) rfl rfl rfl (by kernel_rfl) (fun _ h => h) ?_
      refine d_take 8 rfl (p_fieldAddr (fun w => fa80_1 _ w) rfl) rfl rfl rfl (by kernel_rfl) (fun _ h => h) ?_
      refine d_take 9 rfl (p_load hD Tryz.underlying76 rfl rfl hd1) rfl rfl rfl (by kernel_rfl) (fun _ h => h) ?_
      refine d_take 10 rfl (p_move rfl) rfl rfl rfl (by kernel_rfl) (fun _ h => h) ?_
      refine d_take 11 rfl (p_slice (l := 8) (h := 12) Tryz.underlying23 sz5 rfl rfl rfl rfl rfl (by omega) (by omega)) rfl rfl rfl (by kernel_rfl) (fun _ h => h) ?_
      refine d_take 12 rfl (p_nilCheckI rfl) rfl rfl rfl (by kernel_rfl) (fun _ h => h) ?_
      refine d_take 13 rfl (p_move rfl) rfl rfl rfl (by kernel_rfl) (fun _ h => h) ?_
      refine d_step 14 rfl (by kernel_rfl) (st_u32 (big := big) (v := (base : Int) + (o : Int)) (by omega) (by omega) rfl rfl (fun w h => by have := rd_slice8 (lo := 8) (hi := 12) hp (by omega) (by omega) w h; rwa [show 12 - 8 = 4 from rfl, ho1] at this)) rfl rfl rfl ?_
      rintro _ T1 ⟨rfl, hW⟩
      subst T1
      refine ⟨fun _ => (fun _ h => h), ?_⟩
      refine d_take 15 rfl (p_conv Tryz.underlying22 Tryz.underlying2 rfl ((w64 (by omega)).trans (show (base : Int) + (o : Int) = ((base + o : Nat) : Int) by omega))) rfl rfl rfl (by kernel_rfl) (fun _ h => h) ?_
      refine d_step 16 rfl (by kernel_rfl) (st_call Tryz.func31 nm31 bo31 rfl (safe_spec gr BL A N c l hl (base + o) (by omega) (by omega) (by omega) hN hb hr)) rfl rfl rfl ?_
      rintro _ _ ⟨gb, rfl, rfl⟩
      refine ⟨fun _ => (fun _ h => Sat.tail (h)), ?_⟩
      refine d_take 17 rfl (p_move rfl) rfl rfl rfl (by kernel_rfl) (fun _ h => Sat.tail (h)) ?_
      refine d_take 18 rfl (p_extract rfl rfl) rfl rfl rfl (by kernel_rfl) (fun _ h => Sat.tail (h)) ?_
      refine d_take 19 rfl (p_extract rfl rfl) rfl rfl rfl (by kernel_rfl) (fun _ h => Sat.tail (h)) ?_
      refine d_take 20 rfl (p_assign rfl) rfl rfl rfl (by kernel_rfl) (fun _ h => Sat.tail (h)) ?_
      refine d_take 21 rfl (p_assign rfl) rfl rfl rfl (by kernel_rfl) (fun _ h => Sat.tail (h)) ?_
      refine d_done (by kernel_rfl) ?_
      exact x_cut ⟨some ⟨gb, 0, none⟩, BL, own (.slice (some ⟨gb, 0, none⟩) BL BL) 5 1 BL (by8 ((l.drop (base + o)).take BL)) :: F⟩ (⟨by rw [ho2]; exact rd_own m0, fun C hC => List.mem_cons_of_mem _ hC, fun w h => h.tail⟩) ⟨rfl, rfl, rfl, rfl, rfl, trivial⟩ (f0)
    · refine c_region ?_
      refine s1 (p_move rfl) rfl rfl rfl ?_
      refine s1 (p_move rfl) rfl rfl rfl ?_
      refine s1 (p_add rfl rfl (wu32 (by omega))) rfl rfl rfl ?_
      refine s1 (p_slice (l := 8) (h := 8 + BL) Tryz.underlying23 sz5 rfl rfl rfl rfl (show 8 + (BL : Int) = ((8 + BL : Nat) : Int) by omega) (by omega) (by omega)) rfl rfl rfl ?_
      refine s1 (p_assign rfl) rfl rfl rfl ?_
      refine s_nil ?_
      exact x_cut ⟨slA pA pc 8 1, pc - 8, F⟩ (⟨fun w h => by have := rd_slice8 (lo := 8) (hi := 8 + BL) hp (by omega) (by omega) w h; rwa [show 8 + BL - 8 = BL by omega, hsm (by omega)] at this, fun C hC => hC, fun w h => h⟩) ⟨rfl, rfl, (by show some (Value.slice _ (8 + BL - 8) _) = _; rw [show 8 + BL - 8 = BL by omega]), rfl, rfl, trivial⟩ (f0)
  · rintro ⟨rA, rc, G⟩ hI
    replace hI : (∀ w, Sat w G → Reads w (.slice rA BL rc) 1 BL (by8 B)) ∧ (∀ C, C ∈ F → C ∈ G) ∧ (∀ w, Sat w G → Sat w F) := hI
    obtain ⟨hraw, hFG, hGF⟩ := hI
    refine c_have (p := BL ≤ rc) (fun w h => (hraw w h).cap) ?_
    intro hrcap
    refine c_sub (L' := [(0, .pointer (some ⟨gd, 0, none⟩)), (5, .nilIface), (6, .slice rA BL rc), (7, .int .u16 kd), (9, .int .u32 (n : Int))]) ⟨rfl, rfl, rfl, rfl, rfl, trivial⟩ ?_
    refine c_perm (T := G) f0 ?_
    refine c_seq ?_
    refine c_seq ?_
    refine c_region ?_
    refine s1 (p_move rfl) rfl rfl rfl ?_
    refine s1 (p_errnil Tryz.underlying50 rfl) rfl rfl rfl ?_
    refine s_nil ?_
    refine x_next ?_
    refine c_false rfl ?_
    refine c_skip ?_
    refine x_next ?_
    refine c_seq ?_
    refine c_region ?_
    refine s1 (p_move rfl) rfl rfl rfl ?_
    refine s_step (st_makeSlice (k := .u32) (n := n) (z := .int .u64 0) Tryz.underlying107 inf59 rfl rfl rfl ⟨by omega, by omega⟩) rfl rfl rfl ?_
    rintro _ _ ⟨gu, rfl, rfl⟩
    rw [show List.replicate n (Value.int .u64 0) = u64L (List.replicate n 0) by simp [u64L]]
    refine s1 (p_assign rfl) rfl rfl rfl ?_
    refine s_nil ?_
    refine x_next ?_
    refine c_seq ?_
    refine c_seq ?_
    refine c_region ?_
    refine s1 (p_move rfl) rfl rfl rfl ?_
    refine s_nil ?_
    refine x_next ?_
    refine c_block ?_
    refine c_seq ?_
    refine c_region ?_
    refine s1 (pb_false (p_eq rfl rfl) (by omega)) rfl rfl rfl ?_
    refine s1 (p_assign rfl) rfl rfl rfl ?_
    refine s_nil ?_
    refine x_next ?_
    refine c_false rfl ?_
    refine c_seq ?_
    refine c_region ?_
    refine s1 (p_eq rfl rfl) rfl rfl rfl ?_
    refine s1 (p_assign rfl) rfl rfl rfl ?_
    refine s_nil ?_
    refine x_next ?_
    refine c_if rfl (fun h105 => ?_) (fun h105 => ?_)
    · refine c_seq ?_
      obtain ⟨rfl, rfl⟩ : kd = 3 ∧ s = 2 := by omega
      have hnmv : ∀ x ∈ nm, 0 ≤ x ∧ x ≤ 65535 := by simpa using hv
      have hBf : B = nm.flatMap (num big 2) := hBl
      refine c_region ?_
      refine s1 (p_assign rfl) rfl rfl rfl ?_
      refine s_nil ?_
      refine x_next ?_
      refine c_block ?_
      refine c_loop (α := (Nat) × (List Int)) (fun gg => gg.1 ≤ n ∧ gg.2.length = n ∧ gg.2.take gg.1 = nm.take gg.1) (fun gg => n - gg.1) (fun gg => [(0, .pointer (some ⟨gd, 0, none⟩)), (4, .slice (some ⟨gu, 0, none⟩) n n), (5, .nilIface), (6, .slice rA BL rc), (9, .int .u32 (n : Int)), (12, .int .u32 (gg.1 : Int))]) (fun gg => own (.slice (some ⟨gu, 0, none⟩) n n) 59 1 n (u64L gg.2) :: G) ⟨0, List.replicate n 0⟩ (⟨Nat.zero_le _, by simp, rfl⟩) ⟨rfl, rfl, rfl, rfl, rfl, rfl, trivial⟩ (f0) ?_
      rintro ⟨i, lu⟩ hI
      replace hI : i ≤ n ∧ lu.length = n ∧ lu.take i = nm.take i := hI
      obtain ⟨hi, hlu, ht⟩ := hI
      refine c_sub (L' := [(0, .pointer (some ⟨gd, 0, none⟩)), (4, .slice (some ⟨gu, 0, none⟩) n n), (5, .nilIface), (6, .slice rA BL rc), (9, .int .u32 (n : Int)), (12, .int .u32 (i : Int))]) ⟨rfl, rfl, rfl, rfl, rfl, rfl, trivial⟩ ?_
      refine c_perm (T := own (.slice (some ⟨gu, 0, none⟩) n n) 59 1 n (u64L lu) :: G) f0 ?_
      refine c_seq ?_
      refine c_seq ?_
      refine c_region ?_
      refine s1 (p_move rfl) rfl rfl rfl ?_
      refine s1 (p_move rfl) rfl rfl rfl ?_
      refine s1 (p_lt rfl rfl) rfl rfl rfl ?_
      refine s_nil ?_
      refine x_next ?_
      refine c_if rfl (fun h109 => ?_) (fun h109 => ?_)
      · refine c_skip ?_
        refine x_next ?_
        refine c_seq ?_
        refine c_block ?_
        have hx : 0 ≤ nm.getD i 0 ∧ nm.getD i 0 ≤ 65535 := num_nonneg_of (p := fun x => 0 ≤ x ∧ x ≤ 65535) hnmv (show i < nm.length by omega)
        refine c_draw 18 (own (.slice (some ⟨gu, 0, none⟩) n n) 59 1 n (u64L lu) :: G) mixed ?_
        refine d_take 0 rfl (p_move rfl) rfl rfl rfl (by kernel_rfl) (fun _ h => h) ?_
        refine d_take 1 rfl (p_move rfl) rfl rfl rfl (by kernel_rfl) (fun _ h => h) ?_
        refine d_take 2 rfl (p_move rfl) rfl rfl rfl (by kernel_rfl) (fun _ h => h) ?_
        refine d_take 3 rfl (p_nilCheck rfl) rfl rfl rfl (by kernel_rfl) (fun _ h => h) ?_
        refine d_take 4 rfl (p_fieldAddr (fun w => fa80_1 _ w) rfl) rfl rfl rfl (by kernel_rfl) (fun _ h => h) ?_
        refine d_take 5 rfl (p_load (List.mem_cons_of_mem _ (hFG _ hD)) Tryz.underlying76 rfl rfl hd1) rfl rfl rfl (by kernel_rfl) (fun _ h => h) ?_
        refine d_take 6 rfl (p_move rfl) rfl rfl rfl (by kernel_rfl) (fun _ h => h) ?_
        refine d_take 7 rfl (p_move rfl) rfl rfl rfl (by kernel_rfl) (fun _ h => h) ?_
        refine d_take 8 rfl (p_mul rfl rfl (wu32 (by omega))) rfl rfl rfl (by kernel_rfl) (fun _ h => h) ?_
        refine d_take 9 rfl (p_move rfl) rfl rfl rfl (by kernel_rfl) (fun _ h => h) ?_
        refine d_take 10 rfl (p_add rfl rfl (wu32 (by omega))) rfl rfl rfl (by kernel_rfl) (fun _ h => h) ?_
        refine d_take 11 rfl (p_mul rfl rfl (wu32 (by omega))) rfl rfl rfl (by kernel_rfl) (fun _ h => h) ?_
        refine d_take 12 rfl (pv (p_slice (l := 2 * i) (h := 2 * (i + 1)) Tryz.underlying23 sz5 rfl rfl rfl (show _ = ((2 * i : Nat) : Int) by omega) (show _ = ((2 * (i + 1) : Nat) : Int) by omega) (by omega) (by omega)) (show Value.slice (slA rA rc (2 * i) 1) (2 * (i + 1) - 2 * i) (rc - 2 * i) = .slice (slA rA rc (2 * i) 1) 2 (rc - 2 * i) by rw [show 2 * (i + 1) - 2 * i = 2 by omega])) rfl rfl rfl (by kernel_rfl) (fun _ h => h) ?_
        refine d_take 13 rfl (p_nilCheckI rfl) rfl rfl rfl (by kernel_rfl) (fun _ h => h) ?_
        refine d_take 14 rfl (p_move rfl) rfl rfl rfl (by kernel_rfl) (fun _ h => h) ?_
        refine d_step 15 rfl (by kernel_rfl) (st_u16 (big := big) (v := nm.getD i 0) hx.1 hx.2 rfl rfl (fun w h => by have := rd_slice8 (lo := 2 * i) (hi := 2 * (i + 1)) hraw (by omega) (by omega) w h.tail; rwa [show 2 * (i + 1) - 2 * i = 2 by omega, hBf, flat_cut (by omega)] at this)) rfl rfl rfl ?_
        rintro _ _ ⟨rfl, rfl⟩
        refine ⟨fun _ => (fun _ h => h), ?_⟩
        refine d_take 16 rfl (p_conv Tryz.underlying100 Tryz.underlying59 rfl (wu64 (by omega))) rfl rfl rfl (by kernel_rfl) (fun _ h => h) ?_
        refine d_take 17 rfl (p_index (kk := i) Tryz.underlying107 sz59 rfl rfl (rd_own m0) (by omega) (by omega) (by omega)) rfl rfl rfl (by kernel_rfl) (fun _ h => h) ?_
        refine d_step0 18 rfl (by kernel_rfl) (st_storeE rfl rfl rfl sz59 (by omega)) rfl rfl ?_
        rintro _ _ rfl
        refine ⟨fun h => absurd rfl h, ?_⟩
        refine d_done (by kernel_rfl) ?_
        rw [u64L_set]
        refine x_block ?_
        refine x_next ?_
        refine c_region ?_
        refine s1 (p_move rfl) rfl rfl rfl ?_
        refine s1 (p_add rfl rfl (wu32 (by omega))) rfl rfl rfl ?_
        refine s1 (p_assign rfl) rfl rfl rfl ?_
        refine s_nil ?_
        exact x_loop ⟨i + 1, lu.set i (nm.getD i 0)⟩ (⟨by dsimp only; omega, by simp [hlu], set_take (by omega) (by omega) ht⟩) (by dsimp only; omega) ⟨rfl, rfl, rfl, rfl, rfl, rfl, trivial⟩ (f0)
      · refine c_exit ?_
        refine x_exit_then ?_
        refine x_exit_then ?_
        refine x_exit_here ?_
        refine x_block ?_
        refine x_next ?_
        refine c_seq ?_
        refine c_region ?_
        refine s1 (p_move rfl) rfl rfl rfl ?_
        refine s1 (p_assign rfl) rfl rfl rfl ?_
        refine s1 (p_assign rfl) rfl rfl rfl ?_
        refine s_nil ?_
        refine x_next ?_
        refine c_ret ?_
        obtain rfl : i = n := by omega
        rw [List.take_of_length_le (by omega), List.take_of_length_le (by omega)] at ht
        subst ht
        refine x_sat (fun w h => back1 h hFG hGF) ?_
        exact x_done_two rfl rfl rfl ⟨_, _, rfl, rfl⟩
    · refine c_seq ?_
      refine c_region ?_
      refine s1 (pb_true (p_eq rfl rfl) (by omega)) rfl rfl rfl ?_
      refine s1 (p_assign rfl) rfl rfl rfl ?_
      refine s_nil ?_
      refine x_next ?_
      refine c_true rfl ?_
      refine c_seq ?_
      obtain ⟨rfl, rfl⟩ : kd = 4 ∧ s = 4 := by omega
      have hnmv : ∀ x ∈ nm, 0 ≤ x ∧ x ≤ 4294967295 := by simpa using hv
      have hBf : B = nm.flatMap (num big 4) := hBl
      refine c_region ?_
      refine s1 (p_assign rfl) rfl rfl rfl ?_
      refine s_nil ?_
      refine x_next ?_
      refine c_block ?_
      refine c_loop (α := (Nat) × (List Int)) (fun gg => gg.1 ≤ n ∧ gg.2.length = n ∧ gg.2.take gg.1 = nm.take gg.1) (fun gg => n - gg.1) (fun gg => [(0, .pointer (some ⟨gd, 0, none⟩)), (4, .slice (some ⟨gu, 0, none⟩) n n), (5, .nilIface), (6, .slice rA BL rc), (9, .int .u32 (n : Int)), (13, .int .u32 (gg.1 : Int))]) (fun gg => own (.slice (some ⟨gu, 0, none⟩) n n) 59 1 n (u64L gg.2) :: G) ⟨0, List.replicate n 0⟩ (⟨Nat.zero_le _, by simp, rfl⟩) ⟨rfl, rfl, rfl, rfl, rfl, rfl, trivial⟩ (f0) ?_
      rintro ⟨i, lu⟩ hI
      replace hI : i ≤ n ∧ lu.length = n ∧ lu.take i = nm.take i := hI
      obtain ⟨hi, hlu, ht⟩ := hI
      refine c_sub (L' := [(0, .pointer (some ⟨gd, 0, none⟩)), (4, .slice (some ⟨gu, 0, none⟩) n n), (5, .nilIface), (6, .slice rA BL rc), (9, .int .u32 (n : Int)), (13, .int .u32 (i : Int))]) ⟨rfl, rfl, rfl, rfl, rfl, rfl, trivial⟩ ?_
      refine c_perm (T := own (.slice (some ⟨gu, 0, none⟩) n n) 59 1 n (u64L lu) :: G) f0 ?_
      refine c_seq ?_
      refine c_seq ?_
      refine c_region ?_
      refine s1 (p_move rfl) rfl rfl rfl ?_
      refine s1 (p_move rfl) rfl rfl rfl ?_
      refine s1 (p_lt rfl rfl) rfl rfl rfl ?_
      refine s_nil ?_
      refine x_next ?_
      refine c_if rfl (fun h134 => ?_) (fun h134 => ?_)
      · refine c_skip ?_
        refine x_next ?_
        refine c_seq ?_
        refine c_block ?_
        have hx : 0 ≤ nm.getD i 0 ∧ nm.getD i 0 ≤ 4294967295 := num_nonneg_of (p := fun x => 0 ≤ x ∧ x ≤ 4294967295) hnmv (show i < nm.length by omega)
        refine c_draw 18 (own (.slice (some ⟨gu, 0, none⟩) n n) 59 1 n (u64L lu) :: G) mixed ?_
        refine d_take 0 rfl (p_move rfl) rfl rfl rfl (by kernel_rfl) (fun _ h => h) ?_
        refine d_take 1 rfl (p_move rfl) rfl rfl rfl (by kernel_rfl) (fun _ h => h) ?_
        refine d_take 2 rfl (p_move rfl) rfl rfl rfl (by kernel_rfl) (fun _ h => h) ?_
        refine d_take 3 rfl (p_nilCheck rfl) rfl rfl rfl (by kernel_rfl) (fun _ h => h) ?_
        refine d_take 4 rfl (p_fieldAddr (fun w => fa80_1 _ w) rfl) rfl rfl rfl (by kernel_rfl) (fun _ h => h) ?_
        refine d_take 5 rfl (p_load (List.mem_cons_of_mem _ (hFG _ hD)) Tryz.underlying76 rfl rfl hd1) rfl rfl rfl (by kernel_rfl) (fun _ h => h) ?_
        refine d_take 6 rfl (p_move rfl) rfl rfl rfl (by kernel_rfl) (fun _ h => h) ?_
        refine d_take 7 rfl (p_move rfl) rfl rfl rfl (by kernel_rfl) (fun _ h => h) ?_
        refine d_take 8 rfl (p_mul rfl rfl (wu32 (by omega))) rfl rfl rfl (by kernel_rfl) (fun _ h => h) ?_
        refine d_take 9 rfl (p_move rfl) rfl rfl rfl (by kernel_rfl) (fun _ h => h) ?_
        refine d_take 10 rfl (p_add rfl rfl (wu32 (by omega))) rfl rfl rfl (by kernel_rfl) (fun _ h => h) ?_
        refine d_take 11 rfl (p_mul rfl rfl (wu32 (by omega))) rfl rfl rfl (by kernel_rfl) (fun _ h => h) ?_
        refine d_take 12 rfl (pv (p_slice (l := 4 * i) (h := 4 * (i + 1)) Tryz.underlying23 sz5 rfl rfl rfl (show _ = ((4 * i : Nat) : Int) by omega) (show _ = ((4 * (i + 1) : Nat) : Int) by omega) (by omega) (by omega)) (show Value.slice (slA rA rc (4 * i) 1) (4 * (i + 1) - 4 * i) (rc - 4 * i) = .slice (slA rA rc (4 * i) 1) 4 (rc - 4 * i) by rw [show 4 * (i + 1) - 4 * i = 4 by omega])) rfl rfl rfl (by kernel_rfl) (fun _ h => h) ?_
        refine d_take 13 rfl (p_nilCheckI rfl) rfl rfl rfl (by kernel_rfl) (fun _ h => h) ?_
        refine d_take 14 rfl (p_move rfl) rfl rfl rfl (by kernel_rfl) (fun _ h => h) ?_
        refine d_step 15 rfl (by kernel_rfl) (st_u32 (big := big) (v := nm.getD i 0) hx.1 hx.2 rfl rfl (fun w h => by have := rd_slice8 (lo := 4 * i) (hi := 4 * (i + 1)) hraw (by omega) (by omega) w h.tail; rwa [show 4 * (i + 1) - 4 * i = 4 by omega, hBf, flat_cut (by omega)] at this)) rfl rfl rfl ?_
        rintro _ _ ⟨rfl, rfl⟩
        refine ⟨fun _ => (fun _ h => h), ?_⟩
        refine d_take 16 rfl (p_conv Tryz.underlying22 Tryz.underlying59 rfl (wu64 (by omega))) rfl rfl rfl (by kernel_rfl) (fun _ h => h) ?_
        refine d_take 17 rfl (p_index (kk := i) Tryz.underlying107 sz59 rfl rfl (rd_own m0) (by omega) (by omega) (by omega)) rfl rfl rfl (by kernel_rfl) (fun _ h => h) ?_
        refine d_step0 18 rfl (by kernel_rfl) (st_storeE rfl rfl rfl sz59 (by omega)) rfl rfl ?_
        rintro _ _ rfl
        refine ⟨fun h => absurd rfl h, ?_⟩
        refine d_done (by kernel_rfl) ?_
        rw [u64L_set]
        refine x_block ?_
        refine x_next ?_
        refine c_region ?_
        refine s1 (p_move rfl) rfl rfl rfl ?_
        refine s1 (p_add rfl rfl (wu32 (by omega))) rfl rfl rfl ?_
        refine s1 (p_assign rfl) rfl rfl rfl ?_
        refine s_nil ?_
        exact x_loop ⟨i + 1, lu.set i (nm.getD i 0)⟩ (⟨by dsimp only; omega, by simp [hlu], set_take (by omega) (by omega) ht⟩) (by dsimp only; omega) ⟨rfl, rfl, rfl, rfl, rfl, rfl, trivial⟩ (f0)
      · refine c_exit ?_
        refine x_exit_then ?_
        refine x_exit_then ?_
        refine x_exit_here ?_
        refine x_block ?_
        refine x_next ?_
        refine c_seq ?_
        refine c_region ?_
        refine s1 (p_move rfl) rfl rfl rfl ?_
        refine s1 (p_assign rfl) rfl rfl rfl ?_
        refine s1 (p_assign rfl) rfl rfl rfl ?_
        refine s_nil ?_
        refine x_next ?_
        refine c_ret ?_
        obtain rfl : i = n := by omega
        rw [List.take_of_length_le (by omega), List.take_of_length_le (by omega)] at ht
        subst ht
        refine x_sat (fun w h => back1 h hFG hGF) ?_
        exact x_done_two rfl rfl rfl ⟨_, _, rfl, rfl⟩

end V
end Go.Proofs.YtaflcjoagfnhfaaGreatDoor
