/- What the decoder knows of a directory. -/
import Derived.Test.YtaflcjoagfnhfaaGreatDoorY
namespace Go.Proofs.YtaflcjoagfnhfaaGreatDoor
namespace V
open Go Go.Proofs

def dcsOf (gr : Nat) (big : Bool) (r : Nat) (PV : Value) : List Value :=
  [.iface 53 (.pointer (some ⟨gr, 0, none⟩)), ordV big, .int .i64 0, .slice none 0 0, .int .i64 0, .int .i64 0, .int .i64 0, .int .u64 0, .map (some r), PV, .slice none 0 0, .int .i64 0, .int .u32 0, .int .u64 0]
theorem lookL_app {ks r : List (Int × Value)} {k : Int} {v : Value} (h : lookL ks k = some v) : lookL (ks ++ r) k = some v := by
  induction ks with
  | nil => cases h
  | cons x ks ih =>
    obtain ⟨a, b⟩ := x
    unfold lookL at h
    rw [List.cons_append]
    unfold lookL
    split
    · rename_i hc; rw [if_pos hc] at h; exact h
    · rename_i hc; rw [if_neg hc] at h; exact ih h
theorem lookL_new {ks : List (Int × Value)} {k : Int} {v : Value} (h : ∀ x ∈ ks, x.1 ≠ k) : lookL (ks ++ [(k, v)]) k = some v := by
  induction ks with
  | nil => simp [lookL]
  | cons x ks ih =>
    obtain ⟨a, b⟩ := x
    rw [List.cons_append]
    unfold lookL
    rw [if_neg (h (a, b) (List.mem_cons_self ..))]
    exact ih (fun y hy => h y (List.mem_cons_of_mem _ hy))
structure DInv (G : List As) (pal : List RGB) (es : List Ent) (q : Nat) (PV : Value) (ks : List (Int × Value)) : Prop where
  look : ∀ (j : Nat) (e : Ent), j < q → es[j]? = some e → e.tag ≠ 277 → e.tag ≠ 320 → ∃ U uc, lookL ks e.tag = some (.slice U e.nums.length uc) ∧ ∀ w, Sat w G → Reads w (.slice U e.nums.length uc) 1 e.nums.length (u64L e.nums)
  keys : ∀ x ∈ ks, ∃ (j : Nat) (e : Ent), j < q ∧ es[j]? = some e ∧ x.1 = e.tag
  pv : (PV = .slice none 0 0 ∧ ∀ (j : Nat) (e : Ent), j < q → es[j]? = some e → e.tag ≠ 320) ∨ (∃ (j : Nat) (e : Ent), j < q ∧ es[j]? = some e ∧ e.tag = 320) ∧ ∃ PA pc, PV = .slice PA 256 pc ∧ ∀ w, Sat w G → Reads w (.slice PA 256 pc) 1 256 (pal.map ifc)
theorem DInv.new {G : List As} {pal : List RGB} {es : List Ent} {q : Nat} {PV : Value} {ks : List (Int × Value)} (h : DInv G pal es q PV ks) (asc : TagsAsc es) {e : Ent} (he : es[q]? = some e) : ∀ x ∈ ks, x.1 ≠ e.tag := by
  intro x hx
  obtain ⟨j, e', hj, he', hxe⟩ := h.keys x hx
  have := asc j q e' e hj he' he
  omega
theorem DInv.step {G G2 : List As} {pal : List RGB} {es : List Ent} {q : Nat} {PV : Value} {ks ks' : List (Int × Value)} {gr r : Nat} {big : Bool} {dcs' : List Value} (h : DInv G pal es q PV ks) (asc : TagsAsc es) {e : Ent} (he : es[q]? = some e)
    (hres : PRes pal e.tag e.nums (dcsOf gr big r PV) dcs' ks ks' G2) : ∃ PV', dcs' = dcsOf gr big r PV' ∧ DInv (G2 ++ G) pal es (q + 1) PV' ks' := by
  have hnew := h.new asc he
  have hs : ∀ w, Sat w (G2 ++ G) → Sat w G := fun w h => sat_app h
  have hs2 : ∀ w, Sat w (G2 ++ G) → Sat w G2 := fun w h => sat_appL h
  have hlook : ∀ ks2, (∀ k v, lookL ks k = some v → lookL ks2 k = some v) → ∀ (j : Nat) (e' : Ent), j < q → es[j]? = some e' → e'.tag ≠ 277 → e'.tag ≠ 320 → ∃ U uc, lookL ks2 e'.tag = some (.slice U e'.nums.length uc) ∧ ∀ w, Sat w (G2 ++ G) → Reads w (.slice U e'.nums.length uc) 1 e'.nums.length (u64L e'.nums) := by
    intro ks2 hk j e' hj he' h1 h2
    obtain ⟨U, uc, h3, h4⟩ := h.look j e' hj he' h1 h2
    exact ⟨U, uc, hk _ _ h3, fun w hw => h4 w (hs w hw)⟩
  have hq : ∀ (j : Nat), j < q + 1 → j < q ∨ j = q := fun j hj => by omega
  have hpv : e.tag ≠ 320 → (PV = .slice none 0 0 ∧ ∀ (j : Nat) (e : Ent), j < q + 1 → es[j]? = some e → e.tag ≠ 320) ∨ (∃ (j : Nat) (e : Ent), j < q + 1 ∧ es[j]? = some e ∧ e.tag = 320) ∧ ∃ PA pc, PV = .slice PA 256 pc ∧ ∀ w, Sat w (G2 ++ G) → Reads w (.slice PA 256 pc) 1 256 (pal.map ifc) := by
    intro hne
    rcases h.pv with ⟨h1, h2⟩ | ⟨⟨j, e', hj, he', h3⟩, PA, pc, h4, h5⟩
    · refine .inl ⟨h1, fun j e' hj he' => ?_⟩
      rcases hq j hj with hj | rfl
      · exact h2 j e' hj he'
      · rw [he] at he'; injection he' with he'; subst he'; exact hne
    · exact .inr ⟨⟨j, e', by omega, he', h3⟩, PA, pc, h4, fun w hw => h5 w (hs w hw)⟩
  rcases hres with ⟨h1, rfl, rfl⟩ | ⟨h1, rfl, PA, pc, rfl, h2⟩ | ⟨h1, h2, rfl, U, uc, rfl, h3⟩
  · refine ⟨PV, rfl, ⟨fun j e' hj he' n1 n2 => ?_, fun x hx => ?_, hpv (by omega)⟩⟩
    · rcases hq j hj with hj | rfl
      · exact hlook _ (fun _ _ h => h) j e' hj he' n1 n2
      · rw [he] at he'; injection he' with he'; subst he'; exact absurd h1 n1
    · obtain ⟨j, e', hj, h4⟩ := h.keys x hx; exact ⟨j, e', by omega, h4⟩
  · refine ⟨.slice PA 256 pc, rfl, ⟨fun j e' hj he' n1 n2 => ?_, fun x hx => ?_, .inr ⟨⟨q, e, by omega, he, h1⟩, PA, pc, rfl, fun w hw => h2 w (hs2 w hw)⟩⟩⟩
    · rcases hq j hj with hj | rfl
      · exact hlook _ (fun _ _ h => h) j e' hj he' n1 n2
      · rw [he] at he'; injection he' with he'; subst he'; exact absurd h1 n2
    · obtain ⟨j, e', hj, h4⟩ := h.keys x hx; exact ⟨j, e', by omega, h4⟩
  · refine ⟨PV, rfl, ⟨fun j e' hj he' n1 n2 => ?_, fun x hx => ?_, hpv h2⟩⟩
    · rcases hq j hj with hj | rfl
      · exact hlook _ (fun _ _ h => lookL_app h) j e' hj he' n1 n2
      · rw [he] at he'; injection he' with he'; subst he'; exact ⟨U, uc, lookL_new hnew, fun w hw => h3 w (hs2 w hw)⟩
    · rcases List.mem_append.1 hx with hx | hx
      · obtain ⟨j, e', hj, h4⟩ := h.keys x hx; exact ⟨j, e', by omega, h4⟩
      · simp only [List.mem_singleton] at hx; subst hx; exact ⟨q, e, by omega, he, rfl⟩
theorem DInv.get {G : List As} {pal : List RGB} {es : List Ent} {PV : Value} {ks : List (Int × Value)} (h : DInv G pal es es.length PV ks) {tg kd : Int} {nm : List Int} (he : (⟨tg, kd, nm⟩ : Ent) ∈ es) (h1 : tg ≠ 277) (h2 : tg ≠ 320) :
    ∃ U uc, lookL ks tg = some (.slice U nm.length uc) ∧ ∀ w, Sat w G → Reads w (.slice U nm.length uc) 1 nm.length (u64L nm) := by
  obtain ⟨j, hj, he⟩ := List.mem_iff_getElem.1 he
  exact h.look j _ hj (by rw [List.getElem?_eq_getElem hj, he]) h1 h2
/-- The palette as the decoder holds it. -/
def PalV (t : Tif) (pal : List RGB) (PV : Value) (G : List As) : Prop := (¬ t.colour = 3 ∧ PV = .slice none 0 0) ∨ (t.colour = 3 ∧ ∃ PA pc, PV = .slice PA 256 pc ∧ ∀ w, Sat w G → Reads w (.slice PA 256 pc) 1 256 (pal.map ifc))
theorem PalV.tail {t : Tif} {pal : List RGB} {PV : Value} {G : List As} {B : As} (h : PalV t pal PV G) : PalV t pal PV (B :: G) := by
  rcases h with h | ⟨h, PA, pc, h2, h3⟩
  · exact .inl h
  · exact .inr ⟨h, PA, pc, h2, fun w hw => h3 w hw.tail⟩
theorem PalV.weak {t : Tif} {pal : List RGB} {PV : Value} {G G' : List As} (hs : ∀ w, Sat w G' → Sat w G) (h : PalV t pal PV G) : PalV t pal PV G' := by
  rcases h with h | ⟨h, PA, pc, h2, h3⟩
  · exact .inl h
  · exact .inr ⟨h, PA, pc, h2, fun w hw => h3 w (hs w hw)⟩
theorem DInv.palV {G : List As} {t : Tif} {pal : List RGB} {pl sz : List Int} {PV : Value} {ks : List (Int × Value)} (h : DInv G pal (E8 t pal pl sz) (E8 t pal pl sz).length PV ks) : PalV t pal PV G := by
  by_cases hc : t.colour = 3
  · rcases h.pv with ⟨_, h2⟩ | ⟨_, h2⟩
    · obtain ⟨j, hj, he⟩ := List.mem_iff_getElem.1 (E8_pal pal pl sz hc)
      exact absurd rfl (h2 j _ hj (by rw [List.getElem?_eq_getElem hj, he]))
    · exact .inr ⟨hc, h2⟩
  · rcases h.pv with ⟨h1, _⟩ | ⟨⟨j, e, _, he, h3⟩, _⟩
    · exact .inl ⟨hc, h1⟩
    · exact absurd h3 (E8_col pal pl sz hc e (List.mem_of_getElem? he))
theorem Dir.ps12 {t : Tif} {pal : List RGB} {R : Nat} {z pl sz tail : List Int} {ps : List (List Int)} (h : Dir t pal R z pl sz tail ps) : ∀ p ∈ ps, p.length = 12 := by
  intro p hp
  obtain ⟨j, hj, rfl⟩ := List.mem_iff_getElem.1 hp
  have hj2 : j < (E8 t pal pl sz).length := by rw [← h.psN]; exact hj
  exact (h.each j _ _ (List.getElem?_eq_getElem hj) (List.getElem?_eq_getElem hj2)).len
theorem Dir.cuts {t : Tif} {pal : List RGB} {rest z pl sz tail l : List Int} {ps : List (List Int)} {n R : Nat} (h : Dir t pal R z pl sz tail ps) (hR : rest.length = R) (hn : (E8 t pal pl sz).length = n) (hl : l = hd8 t.big R ++ (rest ++ z)) :
    (l.drop 0).take 8 = hd8 t.big R ∧ (l.drop (8 + R)).take 2 = num t.big 2 (n : Int) ∧ (l.drop (8 + R + 2)).take (12 * n) = ps.flatten ∧ l.drop (8 + R + 2 + 12 * n + 4) = tail ∧ l.length = 8 + R + 2 + 12 * n + 4 + tail.length := by
  have hf := flat12 h.ps12
  rw [h.psN, hn] at hf
  have hz : l.drop (8 + R) = z := by rw [hl, ← List.drop_drop, drop_app (hd8_length _ _), drop_app hR]
  have hz2 : l.drop (8 + R + 2) = ps.flatten ++ ([0, 0, 0, 0] ++ tail) := by rw [← List.drop_drop, hz, h.eq, drop_app (num_length ..)]
  refine ⟨by rw [hl, List.drop_zero, take_app (hd8_length _ _)], by rw [hz, h.eq, hn, take_app (num_length ..)], by rw [hz2, take_app hf], ?_, ?_⟩
  · rw [show 8 + R + 2 + 12 * n + 4 = (8 + R + 2) + (12 * n + 4) by omega, ← List.drop_drop, hz2, ← List.drop_drop, drop_app hf]; rfl
  · rw [hl, List.length_append, hd8_length, List.length_append, hR, h.eq, List.length_append, num_length, List.length_append, hf, List.length_append]; simp; omega
theorem head48 (big : Bool) (R : Nat) : ((hd8 big R).drop 4).take 4 = num big 4 (8 + (R : Int)) := by cases big <;> rfl
theorem head04 (big : Bool) (R : Nat) : ((hd8 big R).drop 0).take 4 = (if big then [77, 77, 0, 42] else [73, 73, 42, 0]) := by cases big <;> rfl
theorem strL : strOf [73, 73, 42, 0] = ⟨#[73, 73, 42, 0]⟩ := by rfl
theorem strB : strOf [77, 77, 0, 42] = ⟨#[77, 77, 0, 42]⟩ := by rfl
theorem sLL : ((⟨#[73, 73, 42, 0]⟩ : ByteArray).toList == (⟨#[73, 73, 42, 0]⟩ : ByteArray).toList) = true := by simp
theorem sBB : ((⟨#[77, 77, 0, 42]⟩ : ByteArray).toList == (⟨#[77, 77, 0, 42]⟩ : ByteArray).toList) = true := by simp
theorem sBL : ((⟨#[77, 77, 0, 42]⟩ : ByteArray).toList == (⟨#[73, 73, 42, 0]⟩ : ByteArray).toList) = false := by kernel_rfl

end V
end Go.Proofs.YtaflcjoagfnhfaaGreatDoor
