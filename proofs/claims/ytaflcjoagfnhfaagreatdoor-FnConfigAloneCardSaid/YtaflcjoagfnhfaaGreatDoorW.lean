/- Maps. -/
import Derived.Test.YtaflcjoagfnhfaaGreatDoorV
import Derived.WideMake
namespace Go.Proofs.YtaflcjoagfnhfaaGreatDoor
namespace V
open Go Go.Proofs

/-- A map from numbers. -/
def mp (r : Nat) (ks : List (Int × Value)) : As where
  fp b := b = r
  holds w := ∃ es clock, w.heap[r]? = some (.map es clock) ∧ es.toList.map (fun e => (e.key, e.val)) = ks.map (fun x => (Value.int .i64 x.1, x.2))
  loc := fun _ _ _ _ _ hb h => by obtain ⟨es, c, h1, h2⟩ := h; exact ⟨es, c, (hb r rfl).trans h1, h2⟩
  lt := fun _ h b hb => by subst hb; obtain ⟨es, c, h1, _⟩ := h; exact (Array.getElem?_eq_some_iff.1 h1).1
def lookL : List (Int × Value) → Int → Option Value
  | [], _ => none
  | (a, v) :: r, k => if a = k then some v else lookL r k
def findL : List (Int × Value) → Int → Nat → Option (Nat × Value)
  | [], _, _ => none
  | (a, v) :: r, k, i => if a = k then some (i, v) else findL r k (i + 1)
theorem findL_look : ∀ (ks : List (Int × Value)) (k : Int) (i : Nat), (findL ks k i).map (·.2) = lookL ks k
  | [], _, _ => rfl
  | (a, v) :: r, k, i => by
    unfold findL lookL
    split
    · rfl
    · exact findL_look r k (i + 1)
theorem findNow_int : ∀ (es : List MapEntry) (ks : List (Int × Value)) (k : Int) (i : Nat), es.map (fun e => (e.key, e.val)) = ks.map (fun x => (Value.int .i64 x.1, x.2)) → Instr.findNow (.int .i64) (.int .i64 k) es i = some (findL ks k i)
  | [], [], _, _, _ => rfl
  | [], _ :: _, _, _, h => by simp at h
  | _ :: _, [], _, _, h => by simp at h
  | e :: es, (a, v) :: r, k, i, h => by
    simp only [List.map_cons, List.cons.injEq, Prod.mk.injEq] at h
    obtain ⟨⟨h1, h2⟩, h3⟩ := h
    unfold Instr.findNow findL
    rw [h1]
    simp only [Instr.sameNow, if_true]
    by_cases hk : a = k
    · subst hk; simp [h2]
    · rw [if_neg hk]
      have : (k == a) = false := by simpa using fun h => hk h.symm
      rw [this]
      exact findNow_int es r k (i + 1) h3
section
variable {P : Program} {L : Env} {S : List As} {dst : Option Tmp} {ty : TypeId} {pos : String} {af : Array Edge} {gd : Option (Nat × Bool)}
theorem st_makeMap {t : TypeId} : Step P L S ⟨dst, .makeMap t none, ty, pos, af, gd⟩ (fun v W => ∃ r, v = .map (some r) ∧ W = mp r [] :: S) := by
  refine Step.of_run fun ρ w hA hS => ⟨_, _, w.alloc (.map #[] 0), ?_, ⟨w.heap.size, rfl, rfl⟩, hS.new (chg_alloc w _) ⟨#[], 0, heap_new w _, rfl⟩ (fun b hb => by simp only [mp] at hb; omega)⟩
  simp [execOp, run_makeMap_plain]
theorem look_run {t kt et : TypeId} {r : Nat} {ks : List (Int × Value)} {k : Int} {v : Value} {c : Bool} (h : mp r ks ∈ S) (hm : P.underlying t = some (.map kt et)) (hk : P.underlying kt = some (.int .i64)) (hv : lookL ks k = some v) {w : World} (hS : Sat w S) :
    (Instr.lookup t (.map (some r)) (.int .i64 k) c).run P w = .ok (if c then .tuple #[v, .bool true] else v) w := by
  obtain ⟨es, clock, hb, hes⟩ := hS.all _ h
  have hf := findNow_int es.toList ks k 0 hes
  obtain ⟨i, hi⟩ : ∃ i, findL ks k 0 = some (i, v) := by
    have := findL_look ks k 0
    rw [hv] at this
    cases e : findL ks k 0 with
    | none => rw [e] at this; simp at this
    | some x => rw [e] at this; simp only [Option.map_some, Option.some.injEq] at this; exact ⟨x.1, by rw [← this]⟩
  rw [hi] at hf
  have hc : (Instr.checkKey es.isEmpty 10000 kt (.int .i64 k)).run P w = .ok () w := MapKept.run_checkKey (k := .int .i64 k) hk (by simp [MapKept.IsKey]) es.isEmpty 9999
  cases c <;> simp [Instr.lookup, run_underlying hm, MapKept.run_getObj_map hb, hc, MapKept.run_findKey hk hf, Result.andThen]
theorem p_lookup {x y : Operand} {t kt et : TypeId} {r : Nat} {ks : List (Int × Value)} {k : Int} {v : Value} (h : mp r ks ∈ S) (hm : P.underlying t = some (.map kt et)) (hk : P.underlying kt = some (.int .i64)) (hx : ev L x = some (.map (some r))) (hy : ev L y = some (.int .i64 k)) (hv : lookL ks k = some v) :
    Pure1 P L S ⟨dst, .lookup t x y false, ty, pos, af, gd⟩ v := by
  intro ρ w hA hS; simp [execOp, hA x _ hx, hA y _ hy, look_run (c := false) h hm hk hv hS]
theorem p_lookup2 {x y : Operand} {t kt et : TypeId} {r : Nat} {ks : List (Int × Value)} {k : Int} {v : Value} (h : mp r ks ∈ S) (hm : P.underlying t = some (.map kt et)) (hk : P.underlying kt = some (.int .i64)) (hx : ev L x = some (.map (some r))) (hy : ev L y = some (.int .i64 k)) (hv : lookL ks k = some v) :
    Pure1 P L S ⟨dst, .lookup t x y true, ty, pos, af, gd⟩ (.tuple #[v, .bool true]) := by
  intro ρ w hA hS; simp [execOp, hA x _ hx, hA y _ hy, look_run (c := true) h hm hk hv hS]
theorem findL_none : ∀ (ks : List (Int × Value)) (k : Int) (i : Nat), (∀ x ∈ ks, x.1 ≠ k) → findL ks k i = none
  | [], _, _, _ => rfl
  | (a, v) :: r, k, i, h => by
    unfold findL
    rw [if_neg (h (a, v) (List.mem_cons_self ..))]
    exact findL_none r k (i + 1) (fun x hx => h x (List.mem_cons_of_mem _ hx))
theorem st_mapUpdate {x y z : Operand} {t kt et : TypeId} {r : Nat} {ks : List (Int × Value)} {k : Int} {v : Value} (hm : P.underlying t = some (.map kt et)) (hk : P.underlying kt = some (.int .i64)) (hx : ev L x = some (.map (some r))) (hy : ev L y = some (.int .i64 k)) (hz : ev L z = some v)
    (hn : ∀ x ∈ ks, x.1 ≠ k) : Step P L (mp r ks :: S) ⟨dst, .mapUpdate t x y z, ty, pos, af, gd⟩ (fun _ W => W = mp r (ks ++ [(k, v)]) :: S) := by
  refine Step.of_skip fun ρ w hA hS => ?_
  obtain ⟨es, clock, hb, hes⟩ := hS.1
  have hf := findNow_int es.toList ks k 0 hes
  rw [findL_none ks k 0 hn] at hf
  have hc : (Instr.checkKey false 10000 kt (.int .i64 k)).run P w = .ok () w := MapKept.run_checkKey (k := .int .i64 k) hk (by simp [MapKept.IsKey]) false 9999
  have hch : Chg (fun b => b = r) w { w with heap := w.heap.setIfInBounds r (.map (es.push { key := .int .i64 k, val := v, born := clock }) (clock + 1)) } :=
    ⟨rfl, rfl, rfl, by simp, fun b _ hn => by show (w.heap.setIfInBounds r _)[b]? = _; rw [Array.getElem?_setIfInBounds_ne (fun h => hn h.symm)]⟩
  refine ⟨_, { w with heap := w.heap.setIfInBounds r (.map (es.push { key := .int .i64 k, val := v, born := clock }) (clock + 1)) }, ?_, rfl, hS.mod (A := mp r ks) hch ⟨es.push { key := .int .i64 k, val := v, born := clock }, clock + 1, ?_, by rw [Array.toList_push, List.map_append, List.map_append, hes]; rfl⟩ (fun b hb => .inl hb)⟩
  · simp [execOp, hA x _ hx, hA y _ hy, hA z _ hz, Instr.mapUpdate, run_underlying hm, MapKept.run_getObj_map hb, hc, MapKept.run_findKey hk hf, MapKept.run_setObj_map _ hb, Result.andThen]
  · have hlt := (Array.getElem?_eq_some_iff.1 hb).1
    show (w.heap.setIfInBounds r _)[r]? = _
    rw [Array.getElem?_setIfInBounds_self_of_lt hlt]
end

end V
end Go.Proofs.YtaflcjoagfnhfaaGreatDoor
