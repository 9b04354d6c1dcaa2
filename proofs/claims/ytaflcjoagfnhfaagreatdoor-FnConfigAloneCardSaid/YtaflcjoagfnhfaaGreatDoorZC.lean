/- What the law compares. -/
import Derived.Test.YtaflcjoagfnhfaaGreatDoorZB
namespace Go.Proofs.YtaflcjoagfnhfaaGreatDoor
namespace V
open Go Go.Proofs

theorem eqFields_same {P : Program} {k : IntKind} {cs : Array Value} (d : Nat) (w : World) : ∀ (fs : List Field), (∀ f ∈ fs, P.underlying f.type = some (.int k) ∧ ∃ n, cs[f.offset]? = some (.int k n)) → (Op.eqFields (d + 1) cs cs fs).run P w = .ok true w
  | [], _ => by simp [Op.eqFields]
  | f :: fs, h => by
    obtain ⟨h1, n, h2⟩ := h f (List.mem_cons_self ..)
    have hp : (part f.type cs f.offset).run P w = .ok (.int k n) w := by
      simp [part, isAgg, run_underlying h1, h2]
    have ih := eqFields_same d w fs (fun g hg => h g (List.mem_cons_of_mem _ hg))
    unfold Op.eqFields
    simp [hp, run_equalIn_int w d f.type k k n n h1, ih]
theorem fields_of {P : Program} {t : TypeId} {k : IntKind} {cs : Array Value} {m : Nat} (hc : (P.fieldsOf t).toList.all (fun f => decide (f.offset < m) && (match P.underlying f.type with | some (.int k') => k' == k | _ => false)) = true) (hcs : ∀ o, o < m → ∃ n, cs[o]? = some (.int k n)) :
    ∀ f ∈ (P.fieldsOf t).toList, P.underlying f.type = some (.int k) ∧ ∃ n, cs[f.offset]? = some (.int k n) := by
  intro f hf
  have := List.all_eq_true.1 hc f hf
  simp only [Bool.and_eq_true, decide_eq_true_eq] at this
  refine ⟨?_, hcs _ this.1⟩
  have h2 := this.2
  split at h2
  · rename_i k' e; rw [e]; have : k' = k := by simpa using h2
    rw [this]
  · cases h2
theorem ne_same {P : Program} {t : TypeId} {k : IntKind} {cs : Array Value} {m : Nat} (ht : P.underlying t = some (.struct (P.fieldsOf t))) (hp : P.stoodInHeld t = false) (hc : (P.fieldsOf t).toList.all (fun f => decide (f.offset < m) && (match P.underlying f.type with | some (.int k') => k' == k | _ => false)) = true)
    (hcs : ∀ o, o < m → ∃ n, cs[o]? = some (.int k n)) (w : World) : (binOp .neq t (.agg cs) (.agg cs)).run P w = .ok (.bool false) w := by
  have h1 := eqFields_same (cs := cs) 9998 w _ (fields_of hc hcs)
  have h2 := run_equalIn_agg w 9999 t cs cs ht hp
  rw [run_neq_struct]
  have h3 : (Op.equalIn 10000 t (.agg cs) (.agg cs)).run P w = .ok true w := h2.trans h1
  rw [h3]
  rfl
theorem p_neAgg {P : Program} {L : Env} {S : List As} {dst : Option Tmp} {ty : TypeId} {pos : String} {af : Array Edge} {gd : Option (Nat × Bool)} {x y : Operand} {t yt : TypeId} {k : IntKind} {cs : Array Value} {m : Nat} (ht : P.underlying t = some (.struct (P.fieldsOf t))) (hp : P.stoodInHeld t = false) (hc : (P.fieldsOf t).toList.all (fun f => decide (f.offset < m) && (match P.underlying f.type with | some (.int k') => k' == k | _ => false)) = true)
    (hg : P.eqGuardType P.depth t = false) (hcs : ∀ o, o < m → ∃ n, cs[o]? = some (.int k n)) (hx : ev L x = some (.agg cs)) (hy : ev L y = some (.agg cs)) : Pure1 P L S ⟨dst, .binOp .neq t x y yt, ty, pos, af, gd⟩ (.bool false) := by
  intro ρ w hA _
  simp [execOp, hA x _ hx, hA y _ hy, run_eqGuard_agg w .neq t x y cs cs hg, ne_same ht hp hc hcs w]
theorem ft31 : Tryz.prog.underlying 31 = some (.struct (Tryz.prog.fieldsOf 31)) := by kernel_rfl
theorem fp31 : Tryz.prog.stoodInHeld 31 = false := by kernel_rfl
theorem fc31 : (Tryz.prog.fieldsOf 31).toList.all (fun f => decide (f.offset < 4) && (match Tryz.prog.underlying f.type with | some (.int k') => k' == .u8 | _ => false)) = true := by kernel_rfl
theorem fg31 : Tryz.prog.eqGuardType Tryz.prog.depth 31 = false := by kernel_rfl
theorem ft39 : Tryz.prog.underlying 39 = some (.struct (Tryz.prog.fieldsOf 39)) := by kernel_rfl
theorem fp39 : Tryz.prog.stoodInHeld 39 = false := by kernel_rfl
theorem fc39 : (Tryz.prog.fieldsOf 39).toList.all (fun f => decide (f.offset < 4) && (match Tryz.prog.underlying f.type with | some (.int k') => k' == .i64 | _ => false)) = true := by kernel_rfl
theorem fg39 : Tryz.prog.eqGuardType Tryz.prog.depth 39 = false := by kernel_rfl
theorem hc31 (x : RGB) : ∀ o, o < 4 → ∃ n, (p4 x).toArray[o]? = some (.int .u8 n) := by
  intro o ho
  rcases (show o = 0 ∨ o = 1 ∨ o = 2 ∨ o = 3 by omega) with rfl | rfl | rfl | rfl <;> exact ⟨_, rfl⟩
theorem hc39 (x : RGB) : ∀ o, o < 4 → ∃ n, (c4 x).toArray[o]? = some (.int .i64 n) := by
  intro o ho
  rcases (show o = 0 ∨ o = 1 ∨ o = 2 ∨ o = 3 by omega) with rfl | rfl | rfl | rfl <;> exact ⟨_, rfl⟩
theorem Laid.len {t : Tif} {pal : List RGB} {b : List Int} (h : Laid t pal b) : 9 ≤ b.length := by
  obtain ⟨rest, z, pl, sz, tail, ps, hb, h1, _⟩ := h
  rw [hb, List.length_append, hd8_length, List.length_append]; omega
theorem set_mid {h r z : List Int} {a : Nat} {x : Int} {n : Nat} (hh : h.length = n) (ha : a < r.length) : (h ++ (r ++ z)).set (n + a) x = h ++ (r.set a x ++ z) := by
  rw [List.set_append_right _ _ (by omega), List.set_append_left _ _ (by omega), hh, Nat.add_sub_cancel_left]
theorem xs_app {A : As} {X F : List As} : A :: (X ++ F) = (A :: X) ++ F := rfl

end V
end Go.Proofs.YtaflcjoagfnhfaaGreatDoor
