/- Rows whose elements lead to further rows that are only read; small laws on bits; strings out of bytes. -/
import Derived.Test.YtaflcjoagfnhfaaGreatDoorI
namespace Go.Proofs.YtaflcjoagfnhfaaGreatDoor
namespace V
open Go Go.Proofs

theorem Reads.local_ {w w' : World} {v : Value} {size n : Nat} {xs : List Value} (h : Reads w v size n xs) (hb : ∀ b, v.ownBlock = some b → xs ≠ [] → w'.heap[b]? = w.heap[b]?) : Reads w' v size n xs := by
  obtain ⟨h1, h2, A, c, hv, hn, hcc, hr⟩ := h
  refine ⟨h1, h2, A, c, hv, hn, hcc, fun h0 => ?_⟩
  obtain ⟨ad, rfl, hx⟩ := hr h0
  refine ⟨ad, rfl, fun j u hj => ?_⟩
  have hne : xs ≠ [] := by intro e; rw [e] at hj; simp at hj
  have := hb ad.block (by rw [hv]; rfl) hne
  have e : (ad.add j).block = ad.block := by unfold Addr.add; split <;> rfl
  have hcc : w'.cell? (ad.add j) = w.cell? (ad.add j) := World.cell?_of_block (by rw [e]; exact this)
  rw [hcc]
  exact hx j u hj

theorem Reads.lt {w : World} {v : Value} {size n : Nat} {xs : List Value} (h : Reads w v size n xs) {b : Nat} (hb : v.ownBlock = some b) (hne : xs ≠ []) : b < w.heap.size := by
  obtain ⟨h1, h2, A, c, hv, hn, hcc, hr⟩ := h
  have hn0 : 0 < n := by
    rcases Nat.eq_zero_or_pos n with e | e
    · subst e; exact absurd (List.eq_nil_of_length_eq_zero (by simpa using h1)) hne
    · exact e
  obtain ⟨ad, rfl, hx⟩ := hr hn0
  rw [hv] at hb
  simp [Value.ownBlock] at hb
  cases xs with
  | nil => exact absurd rfl hne
  | cons u r =>
    have := World.block_lt_of_cell? w _ (hx 0 u rfl)
    have e : (ad.add 0).block = ad.block := by simp [Addr.add]
    omega

/-- A row of one's own, and rows that its elements lead to: these can be read (each: a slice value, the size of its elements is one cell, its cells). -/
def deep (v : Value) (e : TypeId) (size n : Nat) (xs : List Value) (subs : List (Value × List Value)) : As where
  fp b := v.ownBlock = some b ∨ ∃ s, s ∈ subs ∧ s.2 ≠ [] ∧ s.1.ownBlock = some b
  holds w := w.ownsRow 0 e size v n xs ∧ ∀ s, s ∈ subs → Reads w s.1 1 s.2.length s.2 ∧ (s.2 ≠ [] → ∀ b, s.1.ownBlock = some b → v.ownBlock ≠ some b)
  loc := fun w w' h1 h2 h3 hb h =>
    ⟨(own v e size n xs).loc w w' h1 h2 h3 (fun b h => hb b (.inl h)) h.1, fun s hs => ⟨(h.2 s hs).1.local_ (fun b hv hne => hb b (.inr ⟨s, hs, hne, hv⟩)), (h.2 s hs).2⟩⟩
  lt := fun w h b hb => by
    rcases hb with hb | ⟨s, hs, hne, hv⟩
    · exact (own v e size n xs).lt w h.1 b hb
    · exact (h.2 s hs).1.lt hv hne

theorem rd_deep {S : List As} {v : Value} {e : TypeId} {size n : Nat} {xs : List Value} {subs : List (Value × List Value)} (h : deep v e size n xs subs ∈ S) : ∀ w, Sat w S → Reads w v size n xs :=
  fun _ hS => own_reads (e := e) (hS.all _ h).1
theorem rd_sub {S : List As} {v : Value} {e : TypeId} {size n : Nat} {xs : List Value} {subs : List (Value × List Value)} (h : deep v e size n xs subs ∈ S) {s : Value × List Value} (hs : s ∈ subs) :
    ∀ w, Sat w S → Reads w s.1 1 s.2.length s.2 := fun _ hS => ((hS.all _ h).2 s hs).1
/-- An empty or fresh row becomes a deep one. -/
theorem deep_of_own {S : List As} {v : Value} {e : TypeId} {size n : Nat} {xs : List Value} : ∀ w, Sat w (own v e size n xs :: S) → Sat w (deep v e size n xs [] :: S) := by
  intro w h
  refine ⟨⟨h.1, fun s hs => by cases hs⟩, fun B hB b hb => ?_, h.tail⟩
  rcases hb with hb | ⟨s, hs, _⟩
  · exact h.2.1 B hB b hb
  · cases hs
/-- A row of one's own is taken in. -/
theorem deep_take {S : List As} {v x : Value} {e e' : TypeId} {size n k : Nat} {xs ys : List Value} {subs : List (Value × List Value)} :
    ∀ w, Sat w (deep v e size n xs subs :: own x e' 1 k ys :: S) → Sat w (deep v e size n xs (subs ++ [(x, ys)]) :: S) := by
  intro w h
  have hx := own_reads h.2.2.1
  refine ⟨⟨h.1.1, fun s hs => ?_⟩, fun B hB b hb => ?_, h.tail.tail⟩
  · rcases List.mem_append.1 hs with hs | hs
    · exact h.1.2 s hs
    · simp only [List.mem_singleton] at hs
      subst hs
      have : k = ys.length := by have := hx.1; omega
      subst this
      exact ⟨hx, fun _ b hb hv => h.2.1 _ m0 b (.inl hv) hb⟩
  · rcases hb with hb | ⟨s, hs, hne, hv⟩
    · exact h.2.1 B (List.mem_cons_of_mem _ hB) b (.inl hb)
    · rcases List.mem_append.1 hs with hs | hs
      · exact h.2.1 B (List.mem_cons_of_mem _ hB) b (.inr ⟨s, hs, hne, hv⟩)
      · simp only [List.mem_singleton] at hs
        subst hs
        exact h.2.2.2.1 B hB b hv

section
variable {P : Program} {L : Env} {S : List As} {dst : Option Tmp} {ty : TypeId} {pos : String} {af : Array Edge} {gd : Option (Nat × Bool)}
/-- append to a deep row -/
theorem st_appendD {s x : Operand} {t e : TypeId} {z : Value} {size bytes n m c : Nat} {v : Value} {B : Option Addr} {xs ys : List Value} {subs : List (Value × List Value)} (ht : P.underlying t = some (.slice e))
    (hi : (P.info? e).map (fun i => (i.zero, i.size, i.bytes)) = some (some z, size, bytes)) (hz : z.cells.size = size) (hs0 : 0 < size)
    (hs : ev L s = some v) (hx : ev L x = some (.slice B m c)) (hr : ∀ w, Sat w (deep v e size n xs subs :: S) → Reads w (.slice B m c) size m ys) (h1 : ∀ u ∈ ys, u.oneCell' = true) (hb : (n + m) * bytes ≤ 140737488355328 ∧ n + m ≤ 140737488355328) :
    Step P L (deep v e size n xs subs :: S) ⟨dst, .call { callee := .builtin .append, args := #[s, x], argTypes := #[t, t] }, ty, pos, af, gd⟩
      (fun u W => ∃ A c', u = .slice A (n + m) c' ∧ W = deep (.slice A (n + m) c') e size (n + m) (xs ++ ys) subs :: S) := by
  obtain ⟨i0, hi0, hzz⟩ := Option.map_eq_some_iff.1 hi
  simp only [Prod.mk.injEq] at hzz
  obtain ⟨hz0, hz1, hz2⟩ := hzz
  refine Step.of_run fun ρ w hA hS => ?_
  have hown : w.ownsRow 0 e size v n xs := hS.1.1
  obtain ⟨hyl, _, B', c', hv, _, _, hc⟩ := hr w hS
  simp only [Value.slice.injEq] at hv
  obtain ⟨rfl, _, rfl⟩ := hv
  have key : ∃ v' w', (Builtin.append_ #[t, t] ty #[v, .slice B m c]).run P w = .ok v' w' ∧ w'.ownsRow 0 e size v' (n + m) (xs ++ ys) ∧ w.grownBy w' v.ownBlock ∧ (v'.ownBlock = v.ownBlock ∨ v'.ownBlock = some w.heap.size) := by
    rcases Nat.eq_zero_or_pos m with h0 | h0
    · subst h0
      have hy : ys = [] := List.eq_nil_of_length_eq_zero (by simpa using hyl)
      subst hy
      refine ⟨v, w, ?_, by simpa using hown, World.grownBy.refl w _, .inl rfl⟩
      have hfc : (Builtin.firstCells i0.size 0 (.slice B 0 c)).run P w = .ok #[] w := by
        cases B <;> simp [Builtin.firstCells, loadCells, loadCellsFrom]
      rcases hown.2 with ⟨rfl, hn⟩ | ⟨g, cap, cur, rfl, _, _, hnc, _⟩
      · simp [Builtin.append_, run_underlying ht, sizeOf, typeInfo, hi0, Builtin.lenOf, hfc]
      · simp [Builtin.append_, run_underlying ht, sizeOf, typeInfo, hi0, Builtin.lenOf, hfc, hnc, storeCells]
    · obtain ⟨ad, rfl, hcell⟩ := hc h0
      obtain ⟨v1, w1, hr1, hown1, hg, _, hat⟩ := run_append_own_at (P := P) w 0 t ty e i0 z size bytes ht hi0 hz0 hz1 hz2 hz hs0 v n xs hown ad m c ys (by simpa using hyl) hcell h1 (by simp only [maxLen]; omega) hb.1 (Nat.zero_le _)
      exact ⟨v1, w1, hr1, hown1, hg, hat⟩
  obtain ⟨v1, w1, hr1, hown1, hg, hat⟩ := key
  obtain ⟨A1, c1, rfl⟩ : ∃ A c', v1 = .slice A (n + m) c' := by
    rcases hown1.2 with ⟨rfl, h0⟩ | ⟨g, cap, cur, rfl, _⟩
    · exact ⟨none, 0, by rw [h0]⟩
    · exact ⟨_, cap, rfl⟩
  refine ⟨_, _, w1, ?_, ⟨A1, c1, rfl, rfl⟩, hS.mod (A := deep v e size n xs subs) ⟨hg.os, hg.tape, hg.output, hg.size, fun b hb hn => hg.block b hb (fun h => hn (.inl h.symm))⟩ ⟨hown1, ?_⟩ ?_⟩
  · simp [execOp, resolve, invoke, builtin, hA s _ hs, hA x _ hx, hr1]
  · intro s hs
    refine ⟨(hS.1.2 s hs).1.local_ (fun b hvb hnn => ?_), fun hnn b hvb hv' => ?_⟩
    · exact hg.block b ((hS.1.2 s hs).1.lt hvb hnn) (fun h => (hS.1.2 s hs).2 hnn b hvb h.symm)
    · rcases hat with hat | hat
      · exact (hS.1.2 s hs).2 hnn b hvb (hat ▸ hv')
      · rw [hat] at hv'; injection hv' with hv'
        have := (hS.1.2 s hs).1.lt hvb hnn
        omega
  · intro b hb
    rcases hb with hb | hb
    · rcases hat with hat | hat
      · exact .inl (.inl (hat ▸ hb))
      · right; rw [hat] at hb; injection hb; omega
    · exact .inl (.inr hb)
end

end V
end Go.Proofs.YtaflcjoagfnhfaaGreatDoor
