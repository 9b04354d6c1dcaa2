/- Makes, copies, methods through interface values. -/
import Derived.Test.YtaflcjoagfnhfaaGreatDoorS
namespace Go.Proofs.YtaflcjoagfnhfaaGreatDoor
namespace V
open Go Go.Proofs

section
variable {P : Program} {L : Env} {S : List As} {dst : Option Tmp} {ty : TypeId} {pos : String} {af : Array Edge} {gd : Option (Nat × Bool)}
/-- make([]T, n): all zeros. -/
theorem st_makeSlice {x y : Operand} {t e : TypeId} {z : Value} {k : IntKind} {n bytes : Nat} (ht : P.underlying t = some (.slice e)) (hi : (P.info? e).map (fun i => (i.zero, i.size, i.bytes)) = some (some z, 1, bytes)) (hz : z.cells = #[z])
    (hx : ev L x = some (.int k (n : Int))) (hy : ev L y = some (.int k (n : Int))) (hb : n * bytes ≤ 140737488355328 ∧ n ≤ 140737488355328) :
    Step P L S ⟨dst, .makeSlice t x y, ty, pos, af, gd⟩ (fun v W => ∃ g, v = .slice (some ⟨g, 0, none⟩) n n ∧ W = own v e 1 n (List.replicate n z) :: S) := by
  obtain ⟨i0, hi0, hzz⟩ := Option.map_eq_some_iff.1 hi
  simp only [Prod.mk.injEq] at hzz
  obtain ⟨hz0, hz1, hz2⟩ := hzz
  refine Step.of_run fun ρ w hA hS => ?_
  have hr := run_make (P := P) w t e i0 z ht hi0 hz0 k k (n : Int) (n : Int) (by omega) (Int.le_refl _) (by rw [hz2, ← Int.natCast_mul, Nat.mul_comm]; omega) (by omega)
  simp only [Int.toNat_natCast, hz1, Nat.mul_one] at hr
  have hm : madeCells z.cells n = (List.replicate n z).toArray := by
    apply Array.ext'
    refine List.ext_getElem? fun i => ?_
    rw [hz]
    simp only [madeCells, Array.toList_map, Array.toList_range, List.getElem?_map, List.size_toArray, List.length_cons, List.length_nil, Nat.zero_add, Nat.mod_one]
    rcases Nat.lt_or_ge i n with h | h
    · rw [List.getElem?_range h, List.getElem?_replicate, if_pos h]; rfl
    · rw [List.getElem?_eq_none (by simpa using h), List.getElem?_eq_none (by simpa using h)]; rfl
  rw [hm] at hr
  refine ⟨_, _, w.alloc (.cells (List.replicate n z).toArray e), ?_, ⟨w.heap.size, rfl, rfl⟩, ?_⟩
  · simp [execOp, hA x _ hx, hA y _ hy, hr]
  · have := own_new (e := e) (size := 1) (n := n) (cells := (List.replicate n z).toArray) hS (by omega) (by simp)
    simpa using this

/-- copy(dst, src) into the front of a row of one's own. -/
theorem st_copy {x y : Operand} {t t' e e' : TypeId} {g m cb k c2 : Nat} {B : Option Addr} {sl sc : Nat} {lb ys : List Value} (ht : P.underlying t = some (.slice e)) (hz : (P.info? e).map (·.size) = some 1)
    (hx : ev L x = some (.slice (some ⟨g, 0, none⟩) k c2)) (hy : ev L y = some (.slice B sl sc)) (hk : k ≤ m) (hks : k ≤ sl) (hk0 : 0 < k)
    (hr : ∀ w, Sat w (own (.slice (some ⟨g, 0, none⟩) m cb) e' 1 m lb :: S) → Reads w (.slice B sl sc) 1 sl ys) (h1 : ∀ u ∈ ys, u.oneCell' = true) :
    Step P L (own (.slice (some ⟨g, 0, none⟩) m cb) e' 1 m lb :: S) ⟨dst, .call { callee := .builtin .copy, args := #[x, y], argTypes := #[t, t'] }, ty, pos, af, gd⟩
      (fun u W => u = .int .i64 (k : Int) ∧ W = own (.slice (some ⟨g, 0, none⟩) m cb) e' 1 m (ys.take k ++ lb.drop k) :: S) := by
  refine Step.of_run fun ρ w hA hS => ?_
  have hown : w.ownsRow 0 e' 1 (.slice (some ⟨g, 0, none⟩) m cb) m lb := hS.1
  obtain ⟨hyl, _, B', c', hv, _, _, hc⟩ := hr w hS
  simp only [Value.slice.injEq] at hv
  obtain ⟨rfl, _, rfl⟩ := hv
  obtain ⟨ad, rfl, hcell⟩ := hc (by omega)
  obtain ⟨hl, h2⟩ := hown
  rcases h2 with ⟨h2, _⟩ | ⟨g', cap, cur, h2, hg, hh, hn, hcm, hs, htk⟩
  · cases h2
  · simp only [Value.slice.injEq, Option.some.injEq, Addr.mk.injEq] at h2
    obtain ⟨⟨rfl, _, _⟩, _, hcc⟩ := h2
    subst hcc
    have hyl' : ys.length = sl := by omega
    have hlen : (ys.take k).length = k := by rw [List.length_take]; omega
    have hmin : Nat.min sl k = k := by simp only [Nat.min_def]; split <;> omega
    have hrun := run_copy_row (P := P) w t t' ty e g 0 k c2 ad sl sc cur e' (ys.take k) ht hz hh (by rw [hlen, hmin]) (fun j v hj => hcell j v (by
      have hjk : j < k := by
        rcases Nat.lt_or_ge j k with h | h
        · exact h
        · rw [List.getElem?_eq_none (by omega)] at hj; cases hj
      rwa [List.getElem?_take_of_lt hjk] at hj)) (by rw [hlen]; omega) (fun u hu => h1 u (List.mem_of_mem_take hu))
    refine ⟨_, _, w.setRow g (cur.toList.take 0 ++ ys.take k ++ cur.toList.drop (0 + (ys.take k).length)).toArray, ?_, ⟨rfl, rfl⟩, hS.mod (A := own (.slice (some ⟨g, 0, none⟩) m cb) e' 1 m lb) ?_ ?_ (fun b hb => .inl hb)⟩
    · simp [execOp, resolve, invoke, builtin, hA x _ hx, hA y _ hy, hrun, goInt, hlen]
    · have : ∀ b, b ≠ g → (w.setRow g (cur.toList.take 0 ++ ys.take k ++ cur.toList.drop (0 + (ys.take k).length)).toArray).heap[b]? = w.heap[b]? := by
        intro b hb
        simp only [World.setRow]
        rw [Array.getElem?_modify]
        simp [Ne.symm hb]
      exact ⟨rfl, rfl, rfl, by simp [World.setRow], fun b _ hb => this b (fun h => hb (by simp only [own, Value.ownBlock]; rw [h]))⟩
    · have hcur : m ≤ cur.toList.length := by rw [Array.length_toList, hs]; omega
      refine ⟨?_, .inr ⟨g, _, _, rfl, hg, setRow_heap w g cur _ e' (0, 0) hh, hn, hcm, ?_, ?_⟩⟩
      · rw [List.length_append, hlen, List.length_drop]; omega
      · simp [hlen]; omega
      · simp only [List.take_zero, List.nil_append, Nat.zero_add, hlen, Nat.mul_one]
        rw [List.take_append, hlen, List.take_of_length_le (by rw [hlen]; omega)]
        congr 1
        rw [← htk, Nat.mul_one, List.drop_take]
/-- Loading a struct without fields asks nothing of memory. -/
theorem p_load0 {x : Operand} {T : TypeId} {d : TypeDesc} {a : Addr} (ht : P.underlying T = some d) (hd : scalar d = false) (hz : (P.info? T).map (·.size) = some 0)
    (hx : ev L x = some (.pointer (some a))) : Pure1 P L S ⟨dst, .load T x, ty, pos, af, gd⟩ (.agg #[]) := by
  intro ρ w hA hS
  obtain ⟨i0, hi0, hi1⟩ := Option.map_eq_some_iff.1 hz
  have h1 : (loadVar T a).run P w = .ok (.agg #[]) w := by
    cases d <;> simp_all [loadVar, isAgg, run_underlying ht, scalar, sizeOf, typeInfo, loadCells, loadCellsFrom]
  simp [execOp, hA x _ hx, Instr.loadAt, Instr.sureAddr, h1]
theorem p_typeAssert {x : Operand} {s d : TypeId} {v u : Value} (h : ∀ w, (Instr.typeAssert v s d true).run P w = .ok u w) (hx : ev L x = some v) : Pure1 P L S ⟨dst, .typeAssert x s d true, ty, pos, af, gd⟩ u := by
  intro ρ w hA _; simp [execOp, hA x _ hx, h]
/-- s == nil, where s is none -/
theorem p_sliceNe {x : Operand} {t yt e : TypeId} {a : Addr} {n c : Nat} (ht : P.underlying t = some (.slice e)) (hx : ev L x = some (.slice (some a) n c)) : Pure1 P L S ⟨dst, .binOp .eql t x (.const (.slice none 0 0)) yt, ty, pos, af, gd⟩ (.bool false) := by
  intro ρ w hA _
  have h2 : ρ (.const (.slice none 0 0)) = .slice none 0 0 := hA _ _ rfl
  simp [execOp, hA x _ hx, h2, eqGuard, binOp, run_equal_slice_nil w t e (some a) n c ht]
end
theorem mtRead (g : Nat) (w : World) : (method (Tryz.prog.types.size + Made.depth) 53 (.pointer (some ⟨g, 0, none⟩)) "ReadAt").run Tryz.prog w = .ok (75, .pointer (some ⟨g, 0, none⟩)) w := by kernel_rfl
theorem mtL16 (w : World) : (method (Tryz.prog.types.size + Made.depth) 97 (.agg #[]) "Uint16").run Tryz.prog w = .ok (85, .agg #[]) w := by kernel_rfl
theorem mtL32 (w : World) : (method (Tryz.prog.types.size + Made.depth) 97 (.agg #[]) "Uint32").run Tryz.prog w = .ok (86, .agg #[]) w := by kernel_rfl
theorem mtB16 (w : World) : (method (Tryz.prog.types.size + Made.depth) 98 (.agg #[]) "Uint16").run Tryz.prog w = .ok (93, .agg #[]) w := by kernel_rfl
theorem mtB32 (w : World) : (method (Tryz.prog.types.size + Made.depth) 98 (.agg #[]) "Uint32").run Tryz.prog w = .ok (94, .agg #[]) w := by kernel_rfl
theorem mtRGBA (a b c d : Int) (w : World) : (method (Tryz.prog.types.size + Made.depth) 139 (.agg [.int .u16 a, .int .u16 b, .int .u16 c, .int .u16 d].toArray) "RGBA").run Tryz.prog w = .ok (103, .agg [.int .u16 a, .int .u16 b, .int .u16 c, .int .u16 d].toArray) w := by kernel_rfl
theorem ta53 (g : Nat) (w : World) : (Instr.typeAssert (.iface 53 (.pointer (some ⟨g, 0, none⟩))) 69 74 true).run Tryz.prog w = .ok (.tuple #[.iface 53 (.pointer (some ⟨g, 0, none⟩)), .bool true]) w := by kernel_rfl
theorem bd82 (A : Option Addr) (n c : Nat) (w : World) : (Instr.build 82 [(0, .slice A n c), (1, .int .i64 0), (2, .int .i64 (-1))].toArray).run Tryz.prog w = .ok (.agg [.slice A n c, .int .i64 0, .int .i64 (-1)].toArray) w := by kernel_rfl
theorem bd80 (v : Value) (t r : Nat) (w : World) : (Instr.build 80 [(0, .iface t v), (5, .map (some r))].toArray).run Tryz.prog w = .ok (.agg [.iface t v, .nilIface, .int .i64 0, .slice none 0 0, .int .i64 0, .int .i64 0, .int .i64 0, .int .u64 0, .map (some r), .slice none 0 0, .slice none 0 0, .int .i64 0, .int .u32 0, .int .u64 0].toArray) w := by kernel_rfl
theorem bd48 (w : World) : (Instr.build 48 [].toArray).run Tryz.prog w = .ok (.agg [.int .i64 0, .slice none 0 0, .int .i64 0, .int .i64 0].toArray) w := by kernel_rfl
theorem fa82_0 (g : Nat) (w : World) : (Instr.fieldAt 82 (.pointer (some ⟨g, 0, none⟩)) 0).run Tryz.prog w = .ok (.pointer (some ⟨g, 0, none⟩)) w := by kernel_rfl
theorem fa139_0 (g : Nat) (w : World) : (Instr.fieldAt 139 (.pointer (some ⟨g, 0, none⟩)) 0).run Tryz.prog w = .ok (.pointer (some ⟨g, 0, none⟩)) w := by kernel_rfl
theorem fa139_1 (g : Nat) (w : World) : (Instr.fieldAt 139 (.pointer (some ⟨g, 0, none⟩)) 1).run Tryz.prog w = .ok (.pointer (some ⟨g, 1, none⟩)) w := by kernel_rfl
theorem fa139_2 (g : Nat) (w : World) : (Instr.fieldAt 139 (.pointer (some ⟨g, 0, none⟩)) 2).run Tryz.prog w = .ok (.pointer (some ⟨g, 2, none⟩)) w := by kernel_rfl
theorem fa139_3 (g : Nat) (w : World) : (Instr.fieldAt 139 (.pointer (some ⟨g, 0, none⟩)) 3).run Tryz.prog w = .ok (.pointer (some ⟨g, 3, none⟩)) w := by kernel_rfl
theorem infu59 : (Tryz.prog.info? 59).map (fun i => (i.zero, i.size, i.bytes)) = some (some (.int .u64 0), 1, 8) := inf59
/-- The byte order's interface value, and its two methods. -/
def ordV (big : Bool) : Value := .iface (if big then 98 else 97) (.agg #[])
section
variable {L : Env} {S : List As} {dst : Option Tmp} {ty : TypeId} {pos : String} {af : Array Edge} {gd : Option (Nat × Bool)}
theorem st_u16 {big : Bool} {x y : Operand} {ts : Array TypeId} {A : Option Addr} {c : Nat} {v : Int} (h0 : 0 ≤ v) (h1 : v ≤ 65535) (hx : ev L x = some (ordV big)) (hy : ev L y = some (.slice A 2 c)) (hr : ∀ w, Sat w S → Reads w (.slice A 2 c) 1 2 (by8 (num big 2 v))) :
    Step Tryz.prog L S ⟨dst, .call { callee := .invoke x "Uint16", args := [y].toArray, argTypes := ts }, ty, pos, af, gd⟩ (fun u W => u = .int .u16 v ∧ W = S) := by
  cases big
  · exact st_invoke Tryz.func85 nm85 bo85 hx (fun w _ => mtL16 w) (by simp only [evs, hy]) (u16L_spec A c v h0 h1 hr)
  · exact st_invoke Tryz.func93 nm93 bo93 hx (fun w _ => mtB16 w) (by simp only [evs, hy]) (u16B_spec A c v h0 h1 hr)
theorem st_u32 {big : Bool} {x y : Operand} {ts : Array TypeId} {A : Option Addr} {c : Nat} {v : Int} (h0 : 0 ≤ v) (h1 : v ≤ 4294967295) (hx : ev L x = some (ordV big)) (hy : ev L y = some (.slice A 4 c)) (hr : ∀ w, Sat w S → Reads w (.slice A 4 c) 1 4 (by8 (num big 4 v))) :
    Step Tryz.prog L S ⟨dst, .call { callee := .invoke x "Uint32", args := [y].toArray, argTypes := ts }, ty, pos, af, gd⟩ (fun u W => u = .int .u32 v ∧ W = S) := by
  cases big
  · exact st_invoke Tryz.func86 nm86 bo86 hx (fun w _ => mtL32 w) (by simp only [evs, hy]) (u32L_spec A c v h0 h1 hr)
  · exact st_invoke Tryz.func94 nm94 bo94 hx (fun w _ => mtB32 w) (by simp only [evs, hy]) (u32B_spec A c v h0 h1 hr)
end

end V
end Go.Proofs.YtaflcjoagfnhfaaGreatDoor
