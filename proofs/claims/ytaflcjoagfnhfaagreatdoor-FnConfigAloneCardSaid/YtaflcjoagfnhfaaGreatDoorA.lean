/- A small calculus for walking the loaded program: frames as association lists, memory as a list of assertions with disjoint blocks. -/
import Derived.WalkKit
import Derived.WalkSpells
import Derived.WalkLawsBesides
import Derived.OrdersHeld
import Derived.Maps.AppendAt
namespace Go.Proofs.YtaflcjoagfnhfaaGreatDoor
namespace V
open Go

/-! ### Frames -/
def look : List (Nat × Value) → Nat → Option Value
  | [], _ => none
  | (k, v) :: r, t => bif Nat.beq k t then some v else look r t

def ev (L : List (Nat × Value)) : Operand → Option Value
  | .tmp t => look L t
  | .const v => some v
  | .global g => some (.pointer (some ⟨g, 0, none⟩))
  | .func f => some (.func (.func f) #[] #[])

def evs (L : List (Nat × Value)) : List Operand → Option (List Value)
  | [] => some []
  | x :: r => match ev L x, evs L r with
    | some v, some vs => some (v :: vs)
    | _, _ => none

structure Fits (n : Nat) (L : List (Nat × Value)) (a : Act) : Prop where
  size : a.tmps.size = n
  defers : a.defers = []
  vals : ∀ t v, look L t = some v → a.tmps[t]? = some v

def Agree (L : List (Nat × Value)) (ρ : Operand → Value) : Prop := ∀ x v, ev L x = some v → ρ x = v

theorem Fits.agree {n : Nat} {L : List (Nat × Value)} {a : Act} (h : Fits n L a) : Agree L a.eval := by
  intro x v hx
  cases x with
  | tmp t => simp [Act.eval, h.vals t v hx]
  | const u => simpa [ev, Act.eval] using hx
  | global g => simpa [ev, Act.eval] using hx
  | func f => simpa [ev, Act.eval] using hx

theorem Agree.evs {L : List (Nat × Value)} {ρ : Operand → Value} (h : Agree L ρ) : ∀ (xs : List Operand) (vs : List Value), evs L xs = some vs → xs.map ρ = vs := by
  intro xs
  induction xs with
  | nil => intro vs hv; simpa [V.evs] using hv
  | cons x r ih =>
    intro vs hv
    unfold V.evs at hv
    split at hv
    · rename_i v ws h1 h2
      obtain rfl := Option.some.inj hv
      simp [h x v h1, ih ws h2]
    · cases hv

theorem Fits.put {n d : Nat} {L : List (Nat × Value)} {a : Act} (h : Fits n L a) (hd : d < n) (v : Value) : Fits n ((d, v) :: L) (a.put (some d) v) := by
  refine ⟨by simp [Act.put, h.size], by simp [Act.put, h.defers], ?_⟩
  intro t u hu
  unfold look at hu
  by_cases e : d = t
  · subst e
    rw [Nat.beq_refl] at hu
    obtain rfl := Option.some.inj hu
    simp [Act.put, h.size, hd]
  · have : Nat.beq d t = false := by
      cases hb : Nat.beq d t with
      | false => rfl
      | true => exact absurd (Nat.eq_of_beq_eq_true hb) e
    rw [this] at hu
    have := h.vals t u hu
    simp only [Act.put]
    rw [Array.getElem?_setIfInBounds_ne e]
    exact this

def Sub (L : List (Nat × Value)) : List (Nat × Value) → Prop
  | [] => True
  | (t, v) :: r => look L t = some v ∧ Sub L r

theorem Sub.look {L : List (Nat × Value)} : ∀ {L' : List (Nat × Value)}, Sub L L' → ∀ t v, look L' t = some v → look L t = some v
  | [], _, _, _, h => by simp [V.look] at h
  | (k, u) :: r, hs, t, v, h => by
    unfold V.look at h
    cases hb : Nat.beq k t with
    | true =>
      rw [hb] at h
      obtain rfl := Option.some.inj h
      obtain rfl := Nat.eq_of_beq_eq_true hb
      exact hs.1
    | false => rw [hb] at h; exact Sub.look hs.2 t v h

theorem Fits.sub {n : Nat} {L L' : List (Nat × Value)} {a : Act} (h : Fits n L a) (hs : Sub L L') : Fits n L' a :=
  ⟨h.size, h.defers, fun t v ht => h.vals t v (hs.look t v ht)⟩

/-! ### Memory -/
structure As where
  fp : Nat → Prop
  holds : World → Prop
  loc : ∀ w w', w'.os = w.os → w'.tape = w.tape → w'.output = w.output → (∀ b, fp b → w'.heap[b]? = w.heap[b]?) → holds w → holds w'
  lt : ∀ w, holds w → ∀ b, fp b → b < w.heap.size

def As.apart (A B : As) : Prop := ∀ b, A.fp b → ¬ B.fp b
theorem As.apart.symm {A B : As} (h : A.apart B) : B.apart A := fun b hb ha => h b ha hb

def Sat (w : World) : List As → Prop
  | [] => True
  | A :: S => A.holds w ∧ (∀ B, B ∈ S → A.apart B) ∧ Sat w S

theorem Sat.all {w : World} : ∀ {S : List As}, Sat w S → ∀ A, A ∈ S → A.holds w
  | [], _, _, h => by cases h
  | B :: S, hs, A, h => by
    cases h with
    | head => exact hs.1
    | tail _ h => exact Sat.all hs.2.2 A h

theorem Sat.swap {w : World} {A B : As} {S : List As} (h : Sat w (A :: B :: S)) : Sat w (B :: A :: S) := by
  refine ⟨h.2.2.1, ?_, h.1, fun C hC => h.2.1 C (List.mem_cons_of_mem _ hC), h.2.2.2.2⟩
  intro C hC
  cases hC with
  | head => exact (h.2.1 B (List.mem_cons_self ..)).symm
  | tail _ hC => exact h.2.2.2.1 C hC

theorem Sat.tail {w : World} {A : As} {S : List As} (h : Sat w (A :: S)) : Sat w S := h.2.2
theorem Sat.head {w : World} {A : As} {S : List As} (h : Sat w (A :: S)) : A.holds w := h.1

theorem Sat.perm_cons {w : World} {A : As} {S T : List As} (h : Sat w (A :: S)) (hm : ∀ B, B ∈ T → B ∈ S) (ht : Sat w T) : Sat w (A :: T) :=
  ⟨h.1, fun B hB => h.2.1 B (hm B hB), ht⟩

theorem Sat.perm {w : World} {S T : List As} (hp : S.Perm T) : Sat w S → Sat w T := by
  induction hp with
  | nil => exact id
  | cons A hp ih => exact fun h => h.perm_cons (fun B hB => hp.mem_iff.2 hB) (ih h.tail)
  | swap A B S => exact Sat.swap
  | trans _ _ ih1 ih2 => exact fun h => ih2 (ih1 h)

/-- What a step may do: everything outside of 'A' that stood is as it was. -/
structure Chg (A : Nat → Prop) (w w' : World) : Prop where
  os : w'.os = w.os
  tape : w'.tape = w.tape
  output : w'.output = w.output
  size : w.heap.size ≤ w'.heap.size
  block : ∀ b, b < w.heap.size → ¬ A b → w'.heap[b]? = w.heap[b]?

theorem Chg.refl (A : Nat → Prop) (w : World) : Chg A w w := ⟨rfl, rfl, rfl, Nat.le_refl _, fun _ _ _ => rfl⟩

theorem Sat.chg {w w' : World} {A : Nat → Prop} : ∀ {S : List As}, Sat w S → Chg A w w' → (∀ B, B ∈ S → ∀ b, A b → ¬ B.fp b) → Sat w' S
  | [], _, _, _ => trivial
  | B :: _, h, hc, hA =>
    ⟨B.loc w w' hc.os hc.tape hc.output (fun b hb => hc.block b (B.lt w h.1 b hb) (fun ha => hA B (List.mem_cons_self ..) b ha hb)) h.1,
      h.2.1, Sat.chg h.2.2 hc (fun C hC => hA C (List.mem_cons_of_mem _ hC))⟩

theorem Sat.lt {w : World} {S : List As} (h : Sat w S) {A : As} (hA : A ∈ S) {b : Nat} (hb : A.fp b) : b < w.heap.size := A.lt w (h.all A hA) b hb

/-- The head's assertion changes, in its own blocks or new ones. -/
theorem Sat.mod {w w' : World} {A A' : As} {S : List As} (h : Sat w (A :: S)) (hc : Chg A.fp w w') (h' : A'.holds w') (hf : ∀ b, A'.fp b → A.fp b ∨ w.heap.size ≤ b) : Sat w' (A' :: S) := by
  refine ⟨h', fun B hB b hb hBb => ?_, Sat.chg h.tail hc (fun B hB b ha => h.2.1 B hB b ha)⟩
  rcases hf b hb with h1 | h1
  · exact h.2.1 B hB b h1 hBb
  · have := Sat.lt h.tail hB hBb; omega

/-- Something new is laid. -/
theorem Sat.new {w w' : World} {A : As} {S : List As} (h : Sat w S) (hc : Chg (fun _ => False) w w') (h' : A.holds w') (hf : ∀ b, A.fp b → w.heap.size ≤ b) : Sat w' (A :: S) := by
  refine ⟨h', fun B hB b hb hBb => ?_, Sat.chg h hc (fun _ _ _ hn => hn.elim)⟩
  have h1 := hf b hb
  have h2 := Sat.lt h hB hBb
  omega

theorem Sat.keep {w w' : World} {S : List As} (h : Sat w S) (hc : Chg (fun _ => False) w w') : Sat w' S := Sat.chg h hc (fun _ _ _ hn => hn.elim)

/-- One whole block, known cell by cell. -/
def blk (g : Nat) (cs : List Value) (t : TypeId) : As where
  fp b := b = g
  holds w := w.heap[g]? = some (.cells cs.toArray t (0, 0))
  loc := fun _ _ _ _ _ hb h => by rw [hb g rfl]; exact h
  lt := fun _ h b hb => by subst hb; exact (Array.getElem?_eq_some_iff.1 h).1

/-- A row that is one's own: it may be appended to. -/
def own (v : Value) (e : TypeId) (size n : Nat) (xs : List Value) : As where
  fp b := v.ownBlock = some b
  holds w := w.ownsRow 0 e size v n xs
  loc := fun w w' _ _ _ hb h => by
    refine ⟨h.1, ?_⟩
    rcases h.2 with h2 | ⟨g, cap, cur, rfl, hg, hh, r⟩
    · exact .inl h2
    · exact .inr ⟨g, cap, cur, rfl, hg, (hb g rfl).trans hh, r⟩
  lt := fun w h b hb => by
    rcases h.2 with ⟨rfl, _⟩ | ⟨g, cap, cur, rfl, hg, hh, r⟩
    · cases hb
    · simp [Value.ownBlock] at hb
      subst hb
      exact (Array.getElem?_eq_some_iff.1 hh).1

/-- What can be read through a slice value. -/
def Reads (w : World) (v : Value) (size n : Nat) (xs : List Value) : Prop :=
  xs.length = n * size ∧ n ≤ 9223372036854775807 ∧ ∃ A c, v = .slice A n c ∧ n ≤ c ∧ c ≤ 9223372036854775807 ∧
    (0 < n → ∃ ad, A = some ad ∧ ∀ j u, xs[j]? = some u → w.cell? (ad.add j) = some u)

theorem own_reads {w : World} {v : Value} {e : TypeId} {size n : Nat} {xs : List Value} (h : (own v e size n xs).holds w) : Reads w v size n xs := by
  obtain ⟨h1, h2⟩ := h
  rcases h2 with ⟨rfl, rfl⟩ | ⟨g, cap, cur, rfl, hg, hh, hn, hc, hs, ht⟩
  · exact ⟨h1, by omega, none, 0, rfl, by omega, by omega, fun h => absurd h (by omega)⟩
  · unfold maxLen at hc
    refine ⟨h1, by omega, _, cap, rfl, hn, by omega, fun _ => ⟨_, rfl, fun j u hj => ?_⟩⟩
    have hj' : j < n * size := by
      rcases Nat.lt_or_ge j (n * size) with h | h
      · exact h
      · rw [List.getElem?_eq_none (by omega)] at hj; cases hj
    have ha : (⟨g, 0, none⟩ : Addr).add j = ⟨g, j, none⟩ := by unfold Addr.add; split <;> simp_all
    rw [ha]
    rw [← ht] at hj
    simp only [World.cell?, hh]
    simp only [Option.isSome_none, Bool.false_eq_true, if_false]
    rw [List.getElem?_take_of_lt hj'] at hj
    simpa using hj

/-- The stable part of the memory: whatever is an assertion of S. -/
theorem Reads.chg {w w' : World} {v : Value} {size n : Nat} {xs : List Value} (h : Reads w v size n xs) (hc : ∀ a u, w.cell? a = some u → w'.cell? a = some u) : Reads w' v size n xs := by
  obtain ⟨h1, h2, A, c, hv, hn, hcc, hr⟩ := h
  refine ⟨h1, h2, A, c, hv, hn, hcc, fun h0 => ?_⟩
  obtain ⟨ad, ha, hx⟩ := hr h0
  exact ⟨ad, ha, fun j u hj => hc _ _ (hx j u hj)⟩

end V
end Go.Proofs.YtaflcjoagfnhfaaGreatDoor
