/- The directory of a made-up file: order, bounds, pieces. -/
import Derived.Test.YtaflcjoagfnhfaaGreatDoorX
namespace Go.Proofs.YtaflcjoagfnhfaaGreatDoor
namespace V
open Go Go.Proofs

/-- The tags stand in ascending order. -/
def TagsAsc (es : List Ent) : Prop := ∀ (i j : Nat) (a b : Ent), i < j → es[i]? = some a → es[j]? = some b → a.tag < b.tag
theorem asc_of {es : List Ent} (h : (es.map Ent.tag).Pairwise (· < ·)) : TagsAsc es := by
  intro i j a b hij ha hb
  have hi := (List.getElem?_eq_some_iff.1 ha)
  have hj := (List.getElem?_eq_some_iff.1 hb)
  obtain ⟨hi1, hi2⟩ := hi
  obtain ⟨hj1, hj2⟩ := hj
  have := List.pairwise_iff_getElem.1 h i j (by simpa using hi1) (by simpa using hj1) hij
  simp only [List.getElem_map, hi2, hj2] at this
  exact this
theorem E8_asc {t : Tif} (hok : t.Ok) (pal : List RGB) (pl sz : List Int) : TagsAsc (E8 t pal pl sz) := by
  refine asc_of ?_
  have ht := hok.tile
  by_cases h1 : t.tileW = 0
  · have h2 : ¬ t.tileW > 0 := by omega
    by_cases h3 : t.ahead = true <;> by_cases h4 : t.colour = 3 <;> by_cases h5 : t.colour = 2 ∧ t.alpha > 0 <;>
      simp [E8, E7, E6, E5, E4, E3, E2, E1, h1, h3, h4, h5]
  · have h2 : t.tileW > 0 := by omega
    by_cases h3 : t.ahead = true <;> by_cases h4 : t.colour = 3 <;> by_cases h5 : t.colour = 2 ∧ t.alpha > 0 <;>
      simp [E8, E7, E6, E5, E4, E3, E2, E1, h1, h2, h3, h4, h5]
theorem E8_one {t : Tif} (pal : List RGB) (pl sz : List Int) {e : Ent} (h : e ∈ E1 t) : e ∈ E8 t pal pl sz := by
  unfold E8 E7 E6 E5 E4 E3 E2
  simp only [List.append_assoc]
  exact List.mem_append_left _ h
theorem E8_pal {t : Tif} (pal : List RGB) (pl sz : List Int) (h : t.colour = 3) : (⟨320, 3, colorsL pal⟩ : Ent) ∈ E8 t pal pl sz := by
  unfold E8 E7 E6
  rw [if_pos h]
  simp
theorem E8_alpha {t : Tif} (pal : List RGB) (pl sz : List Int) (h : t.colour = 2 ∧ t.alpha > 0) : (⟨338, 3, [t.alpha]⟩ : Ent) ∈ E8 t pal pl sz := by
  unfold E8
  rw [if_pos h]
  simp
theorem mem_iteP {α : Type} {p : Prop} [Decidable p] {l : List α} {x : α} (h : x ∈ (if p then l else [])) : p ∧ x ∈ l := by
  split at h
  · exact ⟨by assumption, h⟩
  · cases h
/-- What holds of every entry. -/
structure Ent.Fine (t : Tif) (pal : List RGB) (e : Ent) : Prop where
  k : e.kind = 3 ∨ e.kind = 4
  n : 1 ≤ e.nums.length ∧ e.nums.length ≤ 1000
  v : ∀ x ∈ e.nums, 0 ≤ x ∧ x ≤ (if e.kind = 4 then 4294967295 else 65535)
  tag : e.tag = 277 ∨ e.tag = 320 ∨ FT e.tag
  pal : e.tag = 320 → e.nums = colorsL pal
theorem colors_in {pal : List RGB} (hin : ∀ x ∈ pal, inB x) : ∀ x ∈ colorsL pal, 0 ≤ x ∧ x ≤ 65535 := by
  intro x hx
  unfold colorsL at hx
  simp only [List.mem_append, List.mem_map] at hx
  rcases hx with ⟨y, hy, rfl⟩ | ⟨y, hy, rfl⟩ | ⟨y, hy, rfl⟩ <;> obtain ⟨h1, h2, h3⟩ := hin y hy <;> simp [colAt] <;> omega
theorem E8_fine {t : Tif} (hok : t.Ok) {pal : List RGB} (hpal : pal.length = 256) (hin : ∀ x ∈ pal, inB x) {pl sz : List Int} (hpl : 1 ≤ pl.length ∧ pl.length ≤ 1000) (hsz : 1 ≤ sz.length ∧ sz.length ≤ 1000) (hpn : NB pl) (hsn : NB sz)
    (htile : t.tileW = 0 ∨ t.tileW > 0) : ∀ e ∈ E8 t pal pl sz, e.Fine t pal ∨ (e.tag = 320 ∧ ¬ t.colour = 3) ∨ (e.tag = 322 ∨ e.tag = 323) ∧ t.tileW = 0 ∨ (e.tag = 338 ∧ ¬ t.colour = 2) := by
  have hch := t.chan_pos
  have h1 := hok.w
  have h2 := hok.h
  have h3 := hok.c
  have h4 := hok.a
  have h5 := hok.d
  have h6 := hok.p
  have h7 := hok.r
  have hti := hok.tile
  refine E8_mem ?_ ?_ ?_ ?_ ?_ ?_ ?_ ?_ ?_ ?_ ?_ ?_
  · intro e he
    left
    simp only [E1, List.mem_cons, List.not_mem_nil, or_false] at he
    rcases he with rfl | rfl | rfl | rfl | rfl
    · exact ⟨by simp, by simp, by simp; omega, by simp [FT], by simp⟩
    · exact ⟨by simp, by simp, by simp; omega, by simp [FT], by simp⟩
    · exact ⟨by simp, by simp; omega, by intro x hx; have := List.eq_of_mem_replicate hx; subst this; simp; omega, by simp [FT], by simp⟩
    · exact ⟨by simp, by simp, by simp; omega, by simp [FT], by simp⟩
    · exact ⟨by simp, by simp, by simp; omega, by simp [FT], by simp⟩
  · exact .inl ⟨by simp, hpl, by intro x hx; have := hpn x hx; simp; omega, by simp [FT], by simp⟩
  · exact .inl ⟨by simp, by simp, by simp; omega, by simp [FT], by simp⟩
  · exact .inl ⟨by simp, by simp, by simp; omega, by simp [FT], by simp⟩
  · exact .inl ⟨by simp, hsz, by intro x hx; have := hsn x hx; simp; omega, by simp [FT], by simp⟩
  · exact .inl ⟨by simp, by simp, by simp, by simp [FT], by simp⟩
  · exact .inl ⟨by simp, by rw [show (colorsL pal).length = 768 from colorsL_length hpal]; omega, by intro x hx; have := colors_in hin x hx; simp; omega, by simp, by simp⟩
  · rcases htile with h | h
    · exact .inr (.inr (.inl ⟨.inl rfl, h⟩))
    · exact .inl ⟨by simp, by simp, by simp; omega, by simp [FT], by simp⟩
  · rcases htile with h | h
    · exact .inr (.inr (.inl ⟨.inr rfl, h⟩))
    · exact .inl ⟨by simp, by simp, by simp; omega, by simp [FT], by simp⟩
  · exact .inl ⟨by simp, hpl, by intro x hx; have := hpn x hx; simp; omega, by simp [FT], by simp⟩
  · exact .inl ⟨by simp, hsz, by intro x hx; have := hsn x hx; simp; omega, by simp [FT], by simp⟩
  · exact .inl ⟨by simp, by simp, by simp; omega, by simp [FT], by simp⟩
theorem E8_tile0 {t : Tif} (pal : List RGB) (pl sz : List Int) (h : t.tileW = 0) : ∀ e ∈ E8 t pal pl sz, e.tag ≠ 322 ∧ e.tag ≠ 323 := by
  have h2 : ¬ t.tileW > 0 := by omega
  intro e he
  unfold E8 at he
  rcases List.mem_append.1 he with he | he
  · unfold E7 at he
    rw [if_neg h2, List.append_nil] at he
    unfold E6 at he
    rcases List.mem_append.1 he with he | he
    · unfold E5 at he
      rcases List.mem_append.1 he with he | he
      · unfold E4 E3 E2 E1 at he
        rw [if_pos h, if_pos h] at he
        simp only [List.mem_append, List.mem_cons, List.not_mem_nil, or_false] at he
        rcases he with ((((rfl | rfl | rfl | rfl | rfl) | rfl) | rfl) | rfl | rfl) <;> simp
      · have := (mem_iteP he).2; simp only [List.mem_singleton] at this; subst this; simp
    · have := (mem_iteP he).2; simp only [List.mem_singleton] at this; subst this; simp
  · have := (mem_iteP he).2; simp only [List.mem_singleton] at this; subst this; simp
theorem E8_col {t : Tif} (pal : List RGB) (pl sz : List Int) (h : ¬ t.colour = 3) : ∀ e ∈ E8 t pal pl sz, e.tag ≠ 320 := by
  intro e he
  unfold E8 at he
  rcases List.mem_append.1 he with he | he
  · unfold E7 at he
    rcases List.mem_append.1 he with he | he
    · unfold E6 at he
      rw [if_neg h, List.append_nil] at he
      unfold E5 at he
      rcases List.mem_append.1 he with he | he
      · unfold E4 at he
        rcases List.mem_append.1 he with he | he
        · unfold E3 at he
          rcases List.mem_append.1 he with he | he
          · unfold E2 at he
            rcases List.mem_append.1 he with he | he
            · simp only [E1, List.mem_cons, List.not_mem_nil, or_false] at he
              rcases he with rfl | rfl | rfl | rfl | rfl <;> simp
            · have := (mem_iteP he).2; simp only [List.mem_singleton] at this; subst this; simp
          · simp only [List.mem_singleton] at he; subst he; simp
        · have := (mem_iteP he).2; simp only [List.mem_cons, List.not_mem_nil, or_false] at this; rcases this with rfl | rfl <;> simp
      · have := (mem_iteP he).2; simp only [List.mem_singleton] at this; subst this; simp
    · have := (mem_iteP he).2; simp only [List.mem_cons, List.not_mem_nil, or_false] at this; rcases this with rfl | rfl | rfl | rfl <;> simp
  · have := (mem_iteP he).2; simp only [List.mem_singleton] at this; subst this; simp
theorem E8_al {t : Tif} (pal : List RGB) (pl sz : List Int) (h : ¬ t.colour = 2) : ∀ e ∈ E8 t pal pl sz, e.tag ≠ 338 := by
  intro e he
  unfold E8 at he
  rw [if_neg (fun k => h k.1), List.append_nil] at he
  unfold E7 at he
  rcases List.mem_append.1 he with he | he
  · unfold E6 at he
    rcases List.mem_append.1 he with he | he
    · unfold E5 at he
      rcases List.mem_append.1 he with he | he
      · unfold E4 at he
        rcases List.mem_append.1 he with he | he
        · unfold E3 at he
          rcases List.mem_append.1 he with he | he
          · unfold E2 at he
            rcases List.mem_append.1 he with he | he
            · simp only [E1, List.mem_cons, List.not_mem_nil, or_false] at he
              rcases he with rfl | rfl | rfl | rfl | rfl <;> simp
            · have := (mem_iteP he).2; simp only [List.mem_singleton] at this; subst this; simp
          · simp only [List.mem_singleton] at he; subst he; simp
        · have := (mem_iteP he).2; simp only [List.mem_cons, List.not_mem_nil, or_false] at this; rcases this with rfl | rfl <;> simp
      · have := (mem_iteP he).2; simp only [List.mem_singleton] at this; subst this; simp
    · have := (mem_iteP he).2; simp only [List.mem_singleton] at this; subst this; simp
  · have := (mem_iteP he).2; simp only [List.mem_cons, List.not_mem_nil, or_false] at this; rcases this with rfl | rfl | rfl | rfl <;> simp
theorem E8_Fine {t : Tif} (hok : t.Ok) {pal : List RGB} (hpal : pal.length = 256) (hin : ∀ x ∈ pal, inB x) {pl sz : List Int} (hpl : 1 ≤ pl.length ∧ pl.length ≤ 1000) (hsz : 1 ≤ sz.length ∧ sz.length ≤ 1000) (hpn : NB pl) (hsn : NB sz) : ∀ e ∈ E8 t pal pl sz, e.Fine t pal := by
  intro e he
  have hti := hok.tile
  rcases E8_fine hok hpal hin hpl hsz hpn hsn (by omega) e he with h | ⟨h, h2⟩ | ⟨h, h2⟩ | ⟨h, h2⟩
  · exact h
  · exact absurd h (E8_col pal pl sz h2 e he)
  · have := E8_tile0 pal pl sz h2 e he; omega
  · exact absurd h (E8_al pal pl sz h2 e he)
/-- The file's pieces. -/
theorem drop_app {α : Type} {a b : List α} {n : Nat} (h : a.length = n) : (a ++ b).drop n = b := by subst h; rw [List.drop_append_of_le_length (Nat.le_refl _), List.drop_length, List.nil_append]
theorem take_app {α : Type} {a b : List α} {n : Nat} (h : a.length = n) : (a ++ b).take n = a := by subst h; rw [List.take_append_of_le_length (Nat.le_refl _), List.take_length]
theorem flat12 : ∀ {ps : List (List Int)}, (∀ p ∈ ps, p.length = 12) → ps.flatten.length = 12 * ps.length
  | [], _ => rfl
  | p :: r, h => by
    rw [List.flatten_cons, List.length_append, h p (List.mem_cons_self ..), flat12 (fun q hq => h q (List.mem_cons_of_mem _ hq)), List.length_cons]; omega
theorem flat12_get : ∀ {ps : List (List Int)} {q : Nat} {p : List Int}, (∀ p ∈ ps, p.length = 12) → ps[q]? = some p → (ps.flatten.drop (12 * q)).take 12 = p
  | [], _, _, _, h => by simp at h
  | x :: r, 0, p, h, hp => by
    simp only [List.getElem?_cons_zero, Option.some.injEq] at hp
    subst hp
    rw [Nat.mul_zero, List.drop_zero, List.flatten_cons, take_app (h _ (List.mem_cons_self ..))]
  | x :: r, q + 1, p, h, hp => by
    rw [List.getElem?_cons_succ] at hp
    rw [List.flatten_cons, show 12 * (q + 1) = 12 + 12 * q by omega, ← List.drop_drop, drop_app (h _ (List.mem_cons_self ..))]
    exact flat12_get (fun q hq => h q (List.mem_cons_of_mem _ hq)) hp


end V
end Go.Proofs.YtaflcjoagfnhfaaGreatDoor
