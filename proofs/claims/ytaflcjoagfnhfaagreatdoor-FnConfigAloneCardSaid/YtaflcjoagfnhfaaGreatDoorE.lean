/- Calls, and regions that draw their order. -/
import Derived.Test.YtaflcjoagfnhfaaGreatDoorD
namespace Go.Proofs.YtaflcjoagfnhfaaGreatDoor
namespace V
open Go

section
variable {P : Program} {L : Env} {S : List As} {dst : Option Tmp} {ty : TypeId} {pos : String} {af : Array Edge} {gd : Option (Nat × Bool)}

theorem run_callFunc {w : World} {f : FuncId} {fn : Func} {args : Array Value} (hf : P.funcs[f]? = some fn) (hn : (fn.name == "runtime.NumGoroutine") = false) (hb : fn.body.isNone = false) :
    (callFunc f args).run P w = .ok (.enter f args) w := by
  have hn' : ¬ fn.name = "runtime.NumGoroutine" := by simpa using hn
  have hb' : ¬ fn.body = none := by intro h; rw [h] at hb; simp at hb
  simp [callFunc, program, Sem.run, hf, hn', hb']

theorem st_enter {o : Oper} {f : FuncId} {vs : List Value} {R : Value → List As → Prop} (hrun : ∀ ρ w, Agree L ρ → Sat w S → (execOp ρ o).run P w = .ok (.enter f vs.toArray) w) (h : Fun P f vs S R) : Step P L S o R := by
  intro a w Q K hA hS hK
  unfold Oper.wp
  rw [hrun _ w hA hS]
  simp only [Oper.upon]
  refine (h w hS).mono ?_
  rintro e w' ⟨v, T, rfl, hR, hT⟩
  exact hK v T w' hR hT

theorem st_call {f : FuncId} {fn : Func} {args : List Operand} {ts : Array TypeId} {vs : List Value} {R : Value → List As → Prop} (hf : P.funcs[f]? = some fn) (hn : (fn.name == "runtime.NumGoroutine") = false) (hb : fn.body.isNone = false)
    (ha : evs L args = some vs) (h : Fun P f vs S R) : Step P L S ⟨dst, .call { callee := .value (.func f), args := args.toArray, argTypes := ts }, ty, pos, af, gd⟩ R := by
  refine st_enter (fun ρ w hA _ => ?_) h
  have h1 : ρ (.func f) = .func (.func f) #[] #[] := hA _ _ rfl
  have h2 := hA.evs args vs ha
  simp [execOp, resolve, invoke, h1, Deferred.ofValue, h2, run_callFunc hf hn hb]

/-- A function value that the frame holds. -/
theorem st_callV {f : FuncId} {fn : Func} {fo : Operand} {args : List Operand} {ts : Array TypeId} {vs caps all : List Value} {R : Value → List As → Prop} (hf : P.funcs[f]? = some fn) (hn : (fn.name == "runtime.NumGoroutine") = false) (hb : fn.body.isNone = false)
    (hv : ev L fo = some (.func (.func f) #[] caps.toArray)) (ha : evs L args = some vs) (he : vs ++ caps = all) (h : Fun P f all S R) : Step P L S ⟨dst, .call { callee := .value fo, args := args.toArray, argTypes := ts }, ty, pos, af, gd⟩ R := by
  refine st_enter (fun ρ w hA _ => ?_) h
  have h1 := hA _ _ hv
  have h2 := hA.evs args vs ha
  simp [execOp, resolve, invoke, h1, Deferred.ofValue, h2, run_callFunc hf hn hb, he]

/-- A method through an interface value. -/
theorem st_invoke {f : FuncId} {fn : Func} {recv : Operand} {name : String} {t : TypeId} {x r : Value} {args : List Operand} {ts : Array TypeId} {vs : List Value} {R : Value → List As → Prop} (hf : P.funcs[f]? = some fn) (hn : (fn.name == "runtime.NumGoroutine") = false) (hb : fn.body.isNone = false)
    (hv : ev L recv = some (.iface t x)) (hm : ∀ w, Sat w S → (method (P.types.size + Made.depth) t x name).run P w = .ok (f, r) w) (ha : evs L args = some vs) (h : Fun P f (r :: vs) S R) :
    Step P L S ⟨dst, .call { callee := .invoke recv name, args := args.toArray, argTypes := ts }, ty, pos, af, gd⟩ R := by
  refine st_enter (fun ρ w hA hS => ?_) h
  have h1 := hA _ _ hv
  have h2 := hA.evs args vs ha
  have h3 := hm w hS
  have h4 : (#[ρ recv] ++ (args.map ρ).toArray)[0]? = some (ρ recv) := by simp
  simp [execOp, resolve, invoke, h1, h2, callMethod, program, Sem.run, h3, run_callFunc hf hn hb]
end

/-! ### Regions that draw their order -/
/-- As the library's 'wpAnyH', but the condition on the world is not asked behind the operation 'fin' (the region's last, for which all others are waited for). -/
def wpAnyF (P : Program) (ops : Array Oper) (Q : Exit → Act → World → Prop) (fin : Nat) (C : World → Prop) : Nat → Array Bool → Act → World → Prop
  | 0, listed, a, w => Region.ready .any ops listed = [] ∧ Q .normal a w
  | fuel + 1, listed, a, w =>
    (Region.ready .any ops listed = [] → Q .normal a w) ∧
    ∀ i ∈ Region.ready .any ops listed, wpOp P ops Q i (fun a' w' => (i ≠ fin → C w') ∧ wpAnyF P ops Q fin C fuel (listed.setIfInBounds i true) a' w') a w

def finOk (ops : Array Oper) (fin i : Nat) : Bool :=
  decide (ops.size ≤ fin) || (ops[fin]?).any fun o => o.after.any fun e => Region.binds .any e && e.on == i

section
variable {P : Program} {ops : Array Oper} {Q : Exit → Act → World → Prop} {fin : Nat} {C : World → Prop}

theorem wpAny_of_F : ∀ (fuel : Nat) (listed : Array Bool) (a : Act) (w : World), wpAnyF P ops Q fin C fuel listed a w → wpAny P .any ops Q fuel listed a w
  | 0, _, _, _, h => h
  | fuel + 1, _, _, _, h => ⟨h.1, fun i hi => wpOp_mono (fun a' w' h' => wpAny_of_F fuel _ a' w' h'.2) (h.2 i hi)⟩

theorem fin_not_ready {i : Nat} {listed : Array Bool} (hfin : finOk ops fin i = true) (hi : i ∈ Region.ready .any ops listed) : fin ∉ Region.ready .any ops listed := by
  intro hf
  obtain ⟨_, of, hof, hall⟩ := mem_ready.1 hf
  have hlt : fin < ops.size := (Array.getElem?_eq_some_iff.1 hof).1
  unfold finOk at hfin
  simp only [Bool.or_eq_true, decide_eq_true_eq] at hfin
  rcases hfin with h | h
  · omega
  · rw [hof] at h
    simp only [Option.any_some] at h
    obtain ⟨e, he, hb⟩ := Array.any_eq_true'.1 h
    simp only [Bool.and_eq_true, beq_iff_eq] at hb
    have h1 := hall e he hb.1
    rw [hb.2] at h1
    have h0 := (mem_ready.1 hi).1
    rcases Nat.lt_or_ge i listed.size with h' | h'
    · simp [h'] at h0 h1; rw [h0] at h1; cases h1
    · simp [Array.getElem?_eq_none h'] at h1

theorem wpAnyF_first {i : Nat} {oi : Oper} {v : Value} (hi : ops[i]? = some oi) (hsel : ∀ (j : Nat) (o : Oper) cs b, ops[j]? = some o → o.op ≠ .select cs b)
    (hQ : ∀ c a w, Q (.panic c) (a.put oi.dst v) w → Q (.panic c) a w) (hfin : finOk ops fin i = true) :
    ∀ (fuel : Nat) (listed : Array Bool) (a : Act) (w : World),
      (∀ j oj, ops[j]? = some oj → j ≠ i → listed.getD j true = false → (∀ e ∈ oj.after, Region.binds .any e = true → e.on ≠ i) → oi.apart ops oj = true) →
      i ∈ Region.ready .any ops listed → YieldsIf P ops C oi v a → C w →
      wpAnyF P ops Q fin C fuel (listed.setIfInBounds i true) (a.put oi.dst v) w → wpAnyF P ops Q fin C (fuel + 1) listed a w := by
  intro fuel
  induction fuel with
  | zero =>
    intro listed a w _ hr hy hS H
    refine ⟨fun h => (by rw [h] at hr; cases hr), fun j hj => ?_⟩
    by_cases hji : j = i
    · subst hji; exact hy.wpOp hi hS ⟨fun _ => hS, H⟩
    · have := ready_mono hj hji
      rw [H.1] at this
      cases this
  | succ fuel ih =>
    intro listed a w hfree hr hy hS H
    refine ⟨fun h => (by rw [h] at hr; cases hr), fun j hj => ?_⟩
    by_cases hji : j = i
    · subst hji; exact hy.wpOp hi hS ⟨fun _ => hS, H⟩
    · have hjf : j ≠ fin := fun e => fin_not_ready hfin hr (e ▸ hj)
      have h1 := H.2 j (ready_mono hj hji)
      obtain ⟨hjun, oj, hoj, hall⟩ := mem_ready.1 hj
      have hnot : ∀ e ∈ oj.after, Region.binds .any e = true → e.on ≠ i := fun e he hb heq => by
        have h1 := hall e he hb
        have h0 := (mem_ready.1 hr).1
        rw [heq] at h1
        rcases Nat.lt_or_ge i listed.size with h' | h'
        · simp [h'] at h0 h1; rw [h0] at h1; cases h1
        · simp [Array.getElem?_eq_none h'] at h1
      have h2 := wpOp_putIf hoj (hfree j oj hoj hji hjun hnot) (fun cs b => hsel i oi cs b hi) (fun cs b => hsel j oj cs b hoj) hQ hy h1
      have hfree' : ∀ k ok, ops[k]? = some ok → k ≠ i → (listed.setIfInBounds j true).getD k true = false →
          (∀ e ∈ ok.after, Region.binds .any e = true → e.on ≠ i) → oi.apart ops ok = true := fun k ok hk hki hun hno => by
        refine hfree k ok hk hki ?_ hno
        by_cases hjk : j = k
        · subst hjk; exact hjun
        · rw [getD_set_ne true hjk] at hun; exact hun
      refine wpOp_mono (fun a' w' h3 => ⟨fun hne => h3.2.1 hne, ih (listed.setIfInBounds j true) a' w' hfree' (ready_mono hr (Ne.symm hji)) h3.1 (h3.2.1 hjf) ?_⟩) h2
      rw [Array.setIfInBounds_comm _ _ hji]
      exact h3.2.2

theorem wpAnyF_take {i : Nat} {oi : Oper} {v : Value} {fuel : Nat} {listed : Array Bool} {a : Act} {w : World} (hi : ops[i]? = some oi) (hfin : finOk ops fin i = true)
    (hs : Region.noSelect ops = true) (hf : Region.free .any ops listed i = true) (hr : (Region.ready .any ops listed).contains i = true)
    (hQ : ∀ c a w, Q (.panic c) (a.put oi.dst v) w → Q (.panic c) a w) (hy : YieldsIf P ops C oi v a) (hS : C w)
    (h : wpAnyF P ops Q fin C fuel (listed.setIfInBounds i true) (a.put oi.dst v) w) : wpAnyF P ops Q fin C (fuel + 1) listed a w :=
  wpAnyF_first hi (Region.noSelect_spec hs) hQ hfin fuel listed a w (Region.free_spec hi hf) (by simpa using hr) hy hS h

theorem wpAnyF_done {listed : Array Bool} {a : Act} {w : World} (hr : Region.ready .any ops listed = []) (h : Q .normal a w) : ∀ fuel, wpAnyF P ops Q fin C fuel listed a w
  | 0 => ⟨hr, h⟩
  | _ + 1 => ⟨fun _ => h, by rw [hr]; simp⟩
end

def NoP (Q : Exit → Act → World → Prop) : Exit → Act → World → Prop
  | .panic _, _, _ => False
  | e, a, w => Q e a w

def GoH (P : Program) (ops : Array Oper) (Q : Exit → Act → World → Prop) (fin : Nat) (ST : List As) (n : Nat) (L : Env) (S : List As) (fuel : Nat) (listed : Array Bool) : Prop :=
  ∀ a w, Fits n L a → Sat w S → wpAnyF P ops (NoP Q) fin (fun w => Sat w ST) fuel listed a w

section
variable {P : Program} {ops : Array Oper} {Q : Exit → Act → World → Prop} {ST S : List As} {n fin : Nat} {L : Env} {fuel : Nat} {listed : Array Bool}

theorem c_draw {id : Nat} (fin : Nat) (ST : List As) (hm : P.follows .mixedOrders = true) (h : GoH P ops Q fin ST n L S ops.size (Array.replicate ops.size false)) : GoC P (.region id ops true) Q n L S := by
  intro a w hF hS
  refine wp_mono (Q := NoP Q) (wp_region_any hm (wpAny_of_F (fin := fin) (C := fun w => Sat w ST) _ _ _ _ (h a w.drew hF (hS.keep (chg_drew w))))) ?_
  intro e a w hq
  cases e <;> first | exact hq | exact hq.elim

theorem d_done (hr : Region.ready .any ops listed = []) (h : GoX .normal Q n L S) : GoH P ops Q fin ST n L S fuel listed :=
  fun a w hF hS => wpAnyF_done hr (show NoP Q .normal a w from h a w hF hS) fuel

theorem d_take (i : Nat) {o : Oper} {v : Value} {d : Nat} (ho : ops[i]? = some o) (hp : Pure1 P L ST o v) (hg : o.guard = none) (hd : o.dst = some d) (hn : Nat.blt d n = true)
    (hc : (finOk ops fin i && Region.noSelect ops && Region.free .any ops listed i && (Region.ready .any ops listed).contains i) = true) (hs : ∀ w, Sat w S → Sat w ST)
    (h : GoH P ops Q fin ST n ((d, v) :: L) S fuel (listed.setIfInBounds i true)) : GoH P ops Q fin ST n L S (fuel + 1) listed := by
  intro a w hF hS
  simp only [Bool.and_eq_true] at hc
  obtain ⟨⟨⟨h1, h2⟩, h3⟩, h4⟩ := hc
  refine wpAnyF_take ho h1 h2 h3 h4 (fun _ _ _ h => h) (.inl ⟨by simp [Region.wanted, hg], fun w hw => hp _ w hF.agree hw⟩) (hs w hS) ?_
  rw [hd]
  exact h _ _ (hF.put (blt_lt hn) v) hS

theorem d_takeg (i : Nat) {o : Oper} {v : Value} {d j : Nat} {want : Bool} (ho : ops[i]? = some o) (hp : Pure1 P L ST o v) (hg : o.guard = some (j, want)) (hy : yields L ops j = some want) (hd : o.dst = some d) (hn : Nat.blt d n = true)
    (hc : (finOk ops fin i && Region.noSelect ops && Region.free .any ops listed i && (Region.ready .any ops listed).contains i) = true) (hs : ∀ w, Sat w S → Sat w ST)
    (h : GoH P ops Q fin ST n ((d, v) :: L) S fuel (listed.setIfInBounds i true)) : GoH P ops Q fin ST n L S (fuel + 1) listed := by
  intro a w hF hS
  simp only [Bool.and_eq_true] at hc
  obtain ⟨⟨⟨h1, h2⟩, h3⟩, h4⟩ := hc
  refine wpAnyF_take ho h1 h2 h3 h4 (fun _ _ _ h => h) (.inl ⟨by simp [Region.wanted, hg, yields_spec hF hy], fun w hw => hp _ w hF.agree hw⟩) (hs w hS) ?_
  rw [hd]
  exact h _ _ (hF.put (blt_lt hn) v) hS

theorem d_skip (i : Nat) {o : Oper} {d j : Nat} {want b : Bool} (ho : ops[i]? = some o) (hg : o.guard = some (j, want)) (hy : yields L ops j = some b) (hb : (b == want) = false) (hd : o.dst = some d) (hn : Nat.blt d n = true)
    (hc : (finOk ops fin i && Region.noSelect ops && Region.free .any ops listed i && (Region.ready .any ops listed).contains i) = true) (hs : ∀ w, Sat w S → Sat w ST)
    (h : GoH P ops Q fin ST n ((d, undef) :: L) S fuel (listed.setIfInBounds i true)) : GoH P ops Q fin ST n L S (fuel + 1) listed := by
  intro a w hF hS
  simp only [Bool.and_eq_true] at hc
  obtain ⟨⟨⟨h1, h2⟩, h3⟩, h4⟩ := hc
  refine wpAnyF_take (v := undef) ho h1 h2 h3 h4 (fun _ _ _ h => h) (.inr ⟨?_, rfl⟩) (hs w hS) ?_
  · have := yields_spec hF hy
    simp only [Region.wanted, hg, this]
    simp at hb ⊢
    exact hb
  rw [hd]
  exact h _ _ (hF.put (blt_lt hn) _) hS

theorem d_step (i : Nat) {o : Oper} {R : Value → List As → Prop} {d : Nat} (ho : ops[i]? = some o) (hr : Region.ready .any ops listed = [i]) (hs : Step P L S o R) (hg : o.guard = none) (hd : o.dst = some d) (hn : Nat.blt d n = true)
    (h : ∀ v T, R v T → (i ≠ fin → ∀ w, Sat w T → Sat w ST) ∧ GoH P ops Q fin ST n ((d, v) :: L) T fuel (listed.setIfInBounds i true)) : GoH P ops Q fin ST n L S (fuel + 1) listed := by
  intro a w hF hS
  refine ⟨fun h => (by rw [h] at hr; cases hr), ?_⟩
  intro k hk
  rw [hr] at hk
  simp only [List.mem_singleton] at hk
  subst hk
  unfold wpOp
  rw [ho]
  simp only [Region.wanted, hg, if_true]
  refine .inl (hs a w _ _ hF.agree hS ?_)
  intro v T w' hR hT
  obtain ⟨h1, h2⟩ := h v T hR
  rw [hd]
  exact ⟨fun hne => h1 hne w' hT, h2 _ _ (hF.put (blt_lt hn) v) hT⟩

theorem d_step0 (i : Nat) {o : Oper} {R : Value → List As → Prop} (ho : ops[i]? = some o) (hr : Region.ready .any ops listed = [i]) (hs : Step P L S o R) (hg : o.guard = none) (hd : o.dst = none)
    (h : ∀ v T, R v T → (i ≠ fin → ∀ w, Sat w T → Sat w ST) ∧ GoH P ops Q fin ST n L T fuel (listed.setIfInBounds i true)) : GoH P ops Q fin ST n L S (fuel + 1) listed := by
  intro a w hF hS
  refine ⟨fun h => (by rw [h] at hr; cases hr), ?_⟩
  intro k hk
  rw [hr] at hk
  simp only [List.mem_singleton] at hk
  subst hk
  unfold wpOp
  rw [ho]
  simp only [Region.wanted, hg, if_true]
  refine .inl (hs a w _ _ hF.agree hS ?_)
  intro v T w' hR hT
  obtain ⟨h1, h2⟩ := h v T hR
  rw [hd]
  exact ⟨fun hne => h1 hne w' hT, h2 _ _ hF hT⟩

theorem h_sub {L' : Env} (hs : Sub L L') (h : GoH P ops Q fin ST n L' S fuel listed) : GoH P ops Q fin ST n L S fuel listed := fun a w hF hS => h a w (hF.sub hs) hS
theorem h_perm {T : List As} (hp : S.Perm T) (h : GoH P ops Q fin ST n L T fuel listed) : GoH P ops Q fin ST n L S fuel listed := fun a w hF hS => h a w hF (hS.perm hp)
theorem h_sat {T : List As} (hp : ∀ w, Sat w S → Sat w T) (h : GoH P ops Q fin ST n L T fuel listed) : GoH P ops Q fin ST n L S fuel listed := fun a w hF hS => h a w hF (hp w hS)
end

end V
end Go.Proofs.YtaflcjoagfnhfaaGreatDoor
