/- The judgements over operations, regions and code, and their structural rules. -/
import Derived.Test.YtaflcjoagfnhfaaGreatDoorA
namespace Go.Proofs.YtaflcjoagfnhfaaGreatDoor
namespace V
open Go

abbrev Env := List (Nat × Value)

/-- An operation that only computes: its value, the world as it was. -/
def Pure1 (P : Program) (L : Env) (S : List As) (o : Oper) (v : Value) : Prop :=
  ∀ ρ w, Agree L ρ → Sat w S → (execOp ρ o).run P w = .ok (.value v) w

/-- An operation that may change the memory. -/
def Step (P : Program) (L : Env) (S : List As) (o : Oper) (R : Value → List As → Prop) : Prop :=
  ∀ (a : Act) (w : World) (Q : Exit → Act → World → Prop) (K : Act → World → Prop), Agree L a.eval → Sat w S →
    (∀ v S' w', R v S' → Sat w' S' → K (a.put o.dst v) w') → o.wp P a w K Q

theorem Pure1.step {P : Program} {L : Env} {S : List As} {o : Oper} {v : Value} (h : Pure1 P L S o v) : Step P L S o (fun u T => u = v ∧ T = S) := by
  intro a w Q K hA hS hK
  unfold Oper.wp
  rw [h _ _ hA hS]
  exact hK v S w ⟨rfl, rfl⟩ hS

theorem Step.mono {P : Program} {L : Env} {S : List As} {o : Oper} {R R' : Value → List As → Prop} (h : Step P L S o R) (hr : ∀ v T, R v T → R' v T) : Step P L S o R' :=
  fun a w Q K hA hS hK => h a w Q K hA hS (fun v T w' hv hT => hK v T w' (hr v T hv) hT)

/-- A step whose run is known. -/
theorem Step.of_run {P : Program} {L : Env} {S : List As} {o : Oper} {R : Value → List As → Prop}
    (h : ∀ ρ w, Agree L ρ → Sat w S → ∃ v T w', (execOp ρ o).run P w = .ok (.value v) w' ∧ R v T ∧ Sat w' T) : Step P L S o R := by
  intro a w Q K hA hS hK
  obtain ⟨v, T, w', hr, hR, hT⟩ := h _ w hA hS
  unfold Oper.wp
  rw [hr]
  exact hK v T w' hR hT

theorem Step.of_skip {P : Program} {L : Env} {S : List As} {o : Oper} {R : Value → List As → Prop}
    (h : ∀ ρ w, Agree L ρ → Sat w S → ∃ T w', (execOp ρ o).run P w = .ok .skip w' ∧ R undef T ∧ Sat w' T) : Step P L S o R := by
  intro a w Q K hA hS hK
  obtain ⟨T, w', hr, hR, hT⟩ := h _ w hA hS
  unfold Oper.wp
  rw [hr]
  exact hK undef T w' hR hT

theorem blt_lt {d n : Nat} (h : Nat.blt d n = true) : d < n := Nat.le_of_ble_eq_true h

/-! ### Regions, one operation after the other -/
def Go1 (P : Program) (ops : Array Oper) (Q : Exit → Act → World → Prop) (n : Nat) (L : Env) (S : List As) (rest : List Oper) : Prop :=
  ∀ a w, Fits n L a → Sat w S → wpList P ops Q rest a w

section
variable {P : Program} {ops : Array Oper} {Q : Exit → Act → World → Prop} {n : Nat} {L : Env} {S : List As} {rest : List Oper} {o : Oper}

theorem s_step {R : Value → List As → Prop} {d : Nat} (hs : Step P L S o R) (hg : o.guard = none) (hd : o.dst = some d) (hn : Nat.blt d n = true)
    (h : ∀ v T, R v T → Go1 P ops Q n ((d, v) :: L) T rest) : Go1 P ops Q n L S (o :: rest) := by
  intro a w hF hS
  unfold wpList
  rw [if_pos (by simp [Region.wanted, hg])]
  refine .inl (hs a w Q _ hF.agree hS ?_)
  intro v T w' hR hT
  rw [hd]
  exact h v T hR _ _ (hF.put (blt_lt hn) v) hT

theorem s_step0 {R : Value → List As → Prop} (hs : Step P L S o R) (hg : o.guard = none) (hd : o.dst = none)
    (h : ∀ v T, R v T → Go1 P ops Q n L T rest) : Go1 P ops Q n L S (o :: rest) := by
  intro a w hF hS
  unfold wpList
  rw [if_pos (by simp [Region.wanted, hg])]
  refine .inl (hs a w Q _ hF.agree hS ?_)
  intro v T w' hR hT
  rw [hd]
  exact h v T hR _ _ hF hT

theorem s1 {v : Value} {d : Nat} (hp : Pure1 P L S o v) (hg : o.guard = none) (hd : o.dst = some d) (hn : Nat.blt d n = true)
    (h : Go1 P ops Q n ((d, v) :: L) S rest) : Go1 P ops Q n L S (o :: rest) :=
  s_step hp.step hg hd hn (fun _ _ ⟨h1, h2⟩ => h1 ▸ h2 ▸ h)

/-- What an operation's guard reads. -/
def yields (L : Env) (ops : Array Oper) (j : Nat) : Option Bool :=
  match ((ops[j]?).bind (·.dst)).bind (look L) with
  | some (.bool b) => some b
  | _ => none

theorem yields_spec {j : Nat} {b : Bool} {a : Act} (hF : Fits n L a) (h : yields L ops j = some b) : yielded ops a.tmps j = some b := by
  unfold yields at h
  unfold yielded
  cases hd : (ops[j]?).bind (·.dst) with
  | none => rw [hd] at h; simp at h
  | some d =>
    rw [hd] at h
    simp only [Option.bind_some] at h ⊢
    cases hl : look L d with
    | none => rw [hl] at h; simp at h
    | some v =>
      rw [hl] at h
      rw [hF.vals d v hl]
      cases v <;> simp_all

theorem s_skip {j d : Nat} {want b : Bool} (hg : o.guard = some (j, want)) (hy : yields L ops j = some b) (hb : (b == want) = false) (hd : o.dst = some d) (hn : Nat.blt d n = true)
    (h : Go1 P ops Q n ((d, undef) :: L) S rest) : Go1 P ops Q n L S (o :: rest) := by
  intro a w hF hS
  unfold wpList
  have hy' := yields_spec hF hy
  rw [if_neg (by simp only [Region.wanted, hg, hy']; simp at hb ⊢; exact hb)]
  rw [hd]
  exact h _ _ (hF.put (blt_lt hn) _) hS

theorem sg_step {R : Value → List As → Prop} {j d : Nat} {want : Bool} (hs : Step P L S o R) (hg : o.guard = some (j, want)) (hy : yields L ops j = some want) (hd : o.dst = some d) (hn : Nat.blt d n = true)
    (h : ∀ v T, R v T → Go1 P ops Q n ((d, v) :: L) T rest) : Go1 P ops Q n L S (o :: rest) := by
  intro a w hF hS
  unfold wpList
  have hy' := yields_spec hF hy
  rw [if_pos (by simp [Region.wanted, hg, hy'])]
  refine .inl (hs a w Q _ hF.agree hS ?_)
  intro v T w' hR hT
  rw [hd]
  exact h v T hR _ _ (hF.put (blt_lt hn) v) hT

theorem sg1 {v : Value} {j d : Nat} {want : Bool} (hp : Pure1 P L S o v) (hg : o.guard = some (j, want)) (hy : yields L ops j = some want) (hd : o.dst = some d) (hn : Nat.blt d n = true)
    (h : Go1 P ops Q n ((d, v) :: L) S rest) : Go1 P ops Q n L S (o :: rest) :=
  sg_step hp.step hg hy hd hn (fun _ _ ⟨h1, h2⟩ => h1 ▸ h2 ▸ h)

/-- The frame is cut down (or its values are spelled otherwise). -/
theorem s_sub {L' : Env} (hs : Sub L L') (h : Go1 P ops Q n L' S rest) : Go1 P ops Q n L S rest := fun a w hF hS => h a w (hF.sub hs) hS
theorem s_perm {T : List As} (hp : S.Perm T) (h : Go1 P ops Q n L T rest) : Go1 P ops Q n L S rest := fun a w hF hS => h a w hF (hS.perm hp)
theorem s_sat {T : List As} (hp : ∀ w, Sat w S → Sat w T) (h : Go1 P ops Q n L T rest) : Go1 P ops Q n L S rest := fun a w hF hS => h a w hF (hp w hS)
/-- A fact that the memory gives. -/
theorem s_have {p : Prop} (hp : ∀ w, Sat w S → p) (h : p → Go1 P ops Q n L S rest) : Go1 P ops Q n L S rest := fun a w hF hS => h (hp w hS) a w hF hS
end

/-! ### Code -/
def GoC (P : Program) (c : Code) (Q : Exit → Act → World → Prop) (n : Nat) (L : Env) (S : List As) : Prop :=
  ∀ a w, Fits n L a → Sat w S → c.wp P Q a w
/-- The exit 'e' is taken. -/
def GoX (e : Exit) (Q : Exit → Act → World → Prop) (n : Nat) (L : Env) (S : List As) : Prop := ∀ a w, Fits n L a → Sat w S → Q e a w

section
variable {P : Program} {Q : Exit → Act → World → Prop} {n : Nat} {L : Env} {S : List As} {x y c : Code}

theorem c_sub {L' : Env} (hs : Sub L L') (h : GoC P c Q n L' S) : GoC P c Q n L S := fun a w hF hS => h a w (hF.sub hs) hS
theorem c_perm {T : List As} (hp : S.Perm T) (h : GoC P c Q n L T) : GoC P c Q n L S := fun a w hF hS => h a w hF (hS.perm hp)
theorem c_sat {T : List As} (hp : ∀ w, Sat w S → Sat w T) (h : GoC P c Q n L T) : GoC P c Q n L S := fun a w hF hS => h a w hF (hp w hS)
theorem c_have {p : Prop} (hp : ∀ w, Sat w S → p) (h : p → GoC P c Q n L S) : GoC P c Q n L S := fun a w hF hS => h (hp w hS) a w hF hS
theorem x_sub {e : Exit} {L' : Env} (hs : Sub L L') (h : GoX e Q n L' S) : GoX e Q n L S := fun a w hF hS => h a w (hF.sub hs) hS
theorem x_perm {e : Exit} {T : List As} (hp : S.Perm T) (h : GoX e Q n L T) : GoX e Q n L S := fun a w hF hS => h a w hF (hS.perm hp)
theorem x_sat {e : Exit} {T : List As} (hp : ∀ w, Sat w S → Sat w T) (h : GoX e Q n L T) : GoX e Q n L S := fun a w hF hS => h a w hF (hp w hS)

theorem c_seq (h : GoC P x (Exit.then (y.wp P Q) Q) n L S) : GoC P (.seq x y) Q n L S := fun a w hF hS => wp_seq (h a w hF hS)
theorem c_skip (h : GoX .normal Q n L S) : GoC P .skip Q n L S := fun a w hF hS => wp_skip (h a w hF hS)
theorem c_ret (h : GoX .ret Q n L S) : GoC P .ret Q n L S := fun a w hF hS => wp_ret (h a w hF hS)
theorem c_exit {id : Nat} (h : GoX (.exit id) Q n L S) : GoC P (.exit id) Q n L S := fun a w hF hS => wp_exit (h a w hF hS)
theorem c_block {id : Nat} (h : GoC P c (Exit.inBlock id Q) n L S) : GoC P (.block id c) Q n L S := fun a w hF hS => wp_block (h a w hF hS)
theorem c_region {id : Nat} {l : List Oper} (h : Go1 P l.toArray Q n L S l) : GoC P (.region id l.toArray false) Q n L S := fun a w hF hS => wp_region_lit (h a w hF hS)
theorem s_nil {ops : Array Oper} (h : GoX .normal Q n L S) : Go1 P ops Q n L S [] := fun a w hF hS => wpList_nil (h a w hF hS)

theorem c_true {o : Operand} (hc : ev L o = some (.bool true)) (h : GoC P x Q n L S) : GoC P (.cond o x y) Q n L S :=
  fun a w hF hS => wp_cond_true (hF.agree o _ hc) (h a w hF hS)
theorem c_false {o : Operand} (hc : ev L o = some (.bool false)) (h : GoC P y Q n L S) : GoC P (.cond o x y) Q n L S :=
  fun a w hF hS => wp_cond_false (hF.agree o _ hc) (h a w hF hS)
theorem c_if {o : Operand} {p : Prop} [Decidable p] (hc : ev L o = some (.bool (decide p))) (ht : p → GoC P x Q n L S) (hf : ¬ p → GoC P y Q n L S) : GoC P (.cond o x y) Q n L S := by
  by_cases hp : p
  · exact c_true (by rw [hc]; simp [hp]) (ht hp)
  · exact c_false (by rw [hc]; simp [hp]) (hf hp)
theorem c_ifb {o : Operand} {b : Bool} (hc : ev L o = some (.bool b)) (ht : b = true → GoC P x Q n L S) (hf : b = false → GoC P y Q n L S) : GoC P (.cond o x y) Q n L S := by
  cases b
  · exact c_false hc (hf rfl)
  · exact c_true hc (ht rfl)

/-! the exits, through what stands round them -/
theorem x_then {R : Act → World → Prop} (h : ∀ a w, Fits n L a → Sat w S → R a w) : GoX .normal (Exit.then R Q) n L S := h
theorem x_next (h : GoC P y Q n L S) : GoX .normal (Exit.then (y.wp P Q) Q) n L S := h
theorem x_block {id : Nat} (h : GoX .normal Q n L S) : GoX .normal (Exit.inBlock id Q) n L S := h
theorem x_exit_then {id : Nat} {R : Act → World → Prop} (h : GoX (.exit id) Q n L S) : GoX (.exit id) (Exit.then R Q) n L S := h
theorem x_exit_here {id : Nat} (h : GoX .normal Q n L S) : GoX (.exit id) (Exit.inBlock id Q) n L S := fun a w hF hS => by
  simp only [Exit.inBlock, if_true]; exact h a w hF hS
theorem x_exit_past {id id' : Nat} (hne : Nat.beq id id' = false) (h : GoX (.exit id) Q n L S) : GoX (.exit id) (Exit.inBlock id' Q) n L S := fun a w hF hS => by
  have : id ≠ id' := fun e => by subst e; rw [Nat.beq_refl] at hne; cases hne
  simp only [Exit.inBlock, this, if_false]; exact h a w hF hS
theorem x_ret_then {R : Act → World → Prop} (h : GoX .ret Q n L S) : GoX .ret (Exit.then R Q) n L S := h
theorem x_ret_block {id : Nat} (h : GoX .ret Q n L S) : GoX .ret (Exit.inBlock id Q) n L S := h

/-- A cut between two codes: what holds there. -/
theorem c_cut {α : Type} (Inv : α → Prop) (LL : α → Env) (SS : α → List As)
    (hx : GoC P x (Exit.then (fun a w => ∃ g, Inv g ∧ Fits n (LL g) a ∧ Sat w (SS g)) Q) n L S)
    (hy : ∀ g, Inv g → GoC P y Q n (LL g) (SS g)) : GoC P (.seq x y) Q n L S := by
  intro a w hF hS
  refine wp_seq (wp_mono (hx a w hF hS) ?_)
  intro e a' w' hq
  cases e with
  | normal =>
    obtain ⟨g, hI, hF', hS'⟩ := hq
    exact hy g hI a' w' hF' hS'
  | _ => exact hq

theorem x_cut {α : Type} {Inv : α → Prop} {LL : α → Env} {SS : α → List As} (g : α) (hI : Inv g) (hL : Sub L (LL g)) (hS : S.Perm (SS g)) :
    GoX .normal (Exit.then (fun a w => ∃ g, Inv g ∧ Fits n (LL g) a ∧ Sat w (SS g)) Q) n L S :=
  fun _ _ hF hw => ⟨g, hI, hF.sub hL, hw.perm hS⟩

/-- A loop: what holds at each round's head, and a measure. -/
theorem c_loop {α : Type} (Inv : α → Prop) (μ : α → Nat) (LL : α → Env) (SS : α → List As) (g0 : α) (h0 : Inv g0) (hL : Sub L (LL g0)) (hS : S.Perm (SS g0))
    (hc : ∀ g, Inv g → GoC P c (Exit.then (fun a w => ∃ g', (Inv g' ∧ μ g' < μ g) ∧ Fits n (LL g') a ∧ Sat w (SS g')) Q) n (LL g) (SS g)) : GoC P (.loop c) Q n L S := by
  intro a w hF hw
  have key : ∀ k g a w, μ g = k → Inv g → Fits n (LL g) a → Sat w (SS g) → ∀ (b : Frame) (todo : List Item) (cs : List Frame),
      ∃ e a' w', Q e a' w' ∧ Arrives P (lone (b.at a (.code c :: .inLoop c :: todo)) cs w) b todo cs e a' w' := by
    intro k
    induction k using Nat.strongRecOn with
    | _ k ih =>
      intro g a w hk hI hF hw b todo cs
      obtain ⟨e, a₁, w₁, hq, harr⟩ := hc g hI a w hF hw b (.inLoop c :: todo) cs
      cases e with
      | normal =>
        obtain ⟨g', ⟨hI', hlt⟩, hF', hw'⟩ := hq
        obtain ⟨e₂, a₂, w₂, hq₂, harr₂⟩ := ih (μ g') (hk ▸ hlt) g' a₁ w₁ rfl hI' hF' hw' b todo cs
        exact ⟨e₂, a₂, w₂, hq₂, .of_steps (Steps.trans harr (.one step_inLoop)) harr₂⟩
      | exit id => exact ⟨_, a₁, w₁, hq, .pass (x := .inLoop c) rfl (fun _ _ => .inl (by simp)) harr⟩
      | goto l => exact ⟨_, a₁, w₁, hq, .pass (x := .inLoop c) rfl (fun _ _ => .inl (by simp)) harr⟩
      | ret => exact ⟨_, a₁, w₁, hq, .pass (x := .inLoop c) rfl (fun _ _ => .inl (by simp)) harr⟩
      | panic ch => exact ⟨_, a₁, w₁, hq, .pass (x := .inLoop c) rfl (fun _ _ => .inl (by simp)) harr⟩
      | outgrown => exact ⟨_, a₁, w₁, hq, .pass (x := .inLoop c) rfl (fun _ _ => .inl (by simp)) harr⟩
  intro b todo cs
  obtain ⟨e, a', w', hq, harr⟩ := key _ g0 a w rfl h0 (hF.sub hL) (hw.perm hS) b todo cs
  exact ⟨e, a', w', hq, .of_steps (.one step_loop) harr⟩

theorem x_loop {α : Type} {Inv : α → Prop} {LL : α → Env} {SS : α → List As} {μ : α → Nat} {g0 : α} (g : α) (hI : Inv g) (hm : μ g < μ g0) (hL : Sub L (LL g)) (hS : S.Perm (SS g)) :
    GoX .normal (Exit.then (fun a w => ∃ g', (Inv g' ∧ μ g' < μ g0) ∧ Fits n (LL g') a ∧ Sat w (SS g')) Q) n L S :=
  fun _ _ hF hw => ⟨g, ⟨hI, hm⟩, hF.sub hL, hw.perm hS⟩
end

/-! ### Functions -/
def Fun (P : Program) (f : FuncId) (args : List Value) (S : List As) (R : Value → List As → Prop) : Prop :=
  ∀ w, Sat w S → Calls P f args.toArray w fun e w' => ∃ v T, e = .returned v ∧ R v T ∧ Sat w' T

theorem Fun.mono {P : Program} {f : FuncId} {args : List Value} {S : List As} {R R' : Value → List As → Prop} (h : Fun P f args S R) (hr : ∀ v T, R v T → R' v T) : Fun P f args S R' :=
  fun w hS => (h w hS).mono (fun _ _ ⟨v, T, he, hR, hT⟩ => ⟨v, T, he, hr v T hR, hT⟩)

def FPost (P : Program) (fn : Func) (R : Value → List As → Prop) : Exit → Act → World → Prop :=
  bodyPost P fn fun e w' => ∃ v T, e = .returned v ∧ R v T ∧ Sat w' T

def env0 : Nat → List Value → Env
  | _, [] => []
  | k, v :: r => (k, v) :: env0 (k + 1) r

theorem look_env0 : ∀ (vs : List Value) (k t : Nat) (v : Value), look (env0 k vs) t = some v → k ≤ t ∧ vs[t - k]? = some v
  | [], _, _, _, h => by simp [env0, look] at h
  | u :: r, k, t, v, h => by
    unfold env0 look at h
    cases hb : Nat.beq k t with
    | true =>
      rw [hb] at h
      obtain rfl := Option.some.inj h
      obtain rfl := Nat.eq_of_beq_eq_true hb
      simp
    | false =>
      rw [hb] at h
      obtain ⟨h1, h2⟩ := look_env0 r (k + 1) t v h
      refine ⟨by omega, ?_⟩
      have : t - k = (t - (k + 1)) + 1 := by omega
      rw [this]
      simpa using h2

theorem fun_intro {P : Program} {f : FuncId} {fn : Func} {c : Code} {args : List Value} {S : List As} {R : Value → List As → Prop} {n : Nat}
    (hf : P.funcs[f]? = some fn) (hb : fn.body = some c) (hn : fn.ntmps = n) (hl : args.length ≤ n)
    (h : GoC P c (FPost P fn R) n (env0 0 args) S) : Fun P f args S R := by
  intro w hS
  refine calls_of_wp hf hb (h _ w ?_ hS)
  refine ⟨by simp [hn]; omega, rfl, ?_⟩
  intro t v ht
  obtain ⟨_, h2⟩ := look_env0 args 0 t v ht
  simp only [Nat.sub_zero] at h2
  have hlt : t < args.length := (List.getElem?_eq_some_iff.1 h2).1
  rw [Array.getElem?_append_left (by simpa using hlt)]
  simpa using h2

section
variable {P : Program} {fn : Func} {R : Value → List As → Prop} {n : Nat} {L : Env} {S : List As}

def gets (L : Env) : List ResultVar → Option (List Value)
  | [] => some []
  | .tmp t :: r => match look L t, gets L r with
    | some v, some vs => some (v :: vs)
    | _, _ => none
  | .cell _ _ :: _ => none

theorem x_done_none (hr : fn.results = #[]) (h : R (.tuple #[]) S) : GoX .normal (FPost P fn R) n L S :=
  fun a w hF hS => bodyPost_end (results_none hr a.tmps P w) hF.defers ⟨_, S, rfl, h, hS⟩
theorem x_done_none' (hr : fn.results = #[]) (h : R (.tuple #[]) S) : GoX .ret (FPost P fn R) n L S :=
  fun a w hF hS => bodyPost_ret (results_none hr a.tmps P w) hF.defers ⟨_, S, rfl, h, hS⟩
theorem x_done_one {t : Nat} {v : Value} (hr : fn.results = #[.tmp t]) (ht : look L t = some v) (h : R v S) : GoX .ret (FPost P fn R) n L S :=
  fun a w hF hS => bodyPost_ret (v := v) (by rw [results_tmp hr a.tmps P w]; simp [hF.vals t v ht]) hF.defers ⟨_, S, rfl, h, hS⟩
theorem x_done_two {t u : Nat} {v v' : Value} (hr : fn.results = #[.tmp t, .tmp u]) (ht : look L t = some v) (hu : look L u = some v') (h : R (.tuple #[v, v']) S) : GoX .ret (FPost P fn R) n L S :=
  fun a w hF hS => bodyPost_ret (v := .tuple #[v, v']) (by rw [results_tmp2 hr a.tmps P w]; simp [hF.vals t v ht, hF.vals u v' hu]) hF.defers ⟨_, S, rfl, h, hS⟩
end

end V
end Go.Proofs.YtaflcjoagfnhfaaGreatDoor
