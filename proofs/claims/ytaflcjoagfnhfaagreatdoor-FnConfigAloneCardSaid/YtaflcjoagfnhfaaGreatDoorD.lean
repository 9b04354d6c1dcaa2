/- What each operation does to the memory: blocks, rows, elements, append. -/
import Derived.Test.YtaflcjoagfnhfaaGreatDoorC
import Derived.ArgAppend
namespace Go.Proofs.YtaflcjoagfnhfaaGreatDoor
namespace V
open Go

/-! ### Membership, and orders of the assertions -/
theorem m0 {A : As} {S : List As} : A ∈ A :: S := List.mem_cons_self ..
theorem m1 {A B : As} {S : List As} : A ∈ B :: A :: S := List.mem_cons_of_mem _ m0
theorem m2 {A B C : As} {S : List As} : A ∈ B :: C :: A :: S := List.mem_cons_of_mem _ m1
theorem m3 {A B C D : As} {S : List As} : A ∈ B :: C :: D :: A :: S := List.mem_cons_of_mem _ m2
theorem m4 {A B C D E : As} {S : List As} : A ∈ B :: C :: D :: E :: A :: S := List.mem_cons_of_mem _ m3
theorem m5 {A B C D E F : As} {S : List As} : A ∈ B :: C :: D :: E :: F :: A :: S := List.mem_cons_of_mem _ m4
theorem m6 {A B C D E F G : As} {S : List As} : A ∈ B :: C :: D :: E :: F :: G :: A :: S := List.mem_cons_of_mem _ m5
theorem m7 {A B C D E F G H : As} {S : List As} : A ∈ B :: C :: D :: E :: F :: G :: H :: A :: S := List.mem_cons_of_mem _ m6
theorem m8 {A B C D E F G H I : As} {S : List As} : A ∈ B :: C :: D :: E :: F :: G :: H :: I :: A :: S := List.mem_cons_of_mem _ m7
theorem m9 {A B C D E F G H I J : As} {S : List As} : A ∈ B :: C :: D :: E :: F :: G :: H :: I :: J :: A :: S := List.mem_cons_of_mem _ m8

/-- number k comes to the head -/
theorem f0 {S : List As} : S.Perm S := List.Perm.refl _
theorem f1 {A B : As} {S : List As} : (A :: B :: S).Perm (B :: A :: S) := List.Perm.swap ..
theorem f2 {A B C : As} {S : List As} : (A :: B :: C :: S).Perm (C :: A :: B :: S) := (List.Perm.cons _ f1).trans f1
theorem f3 {A B C D : As} {S : List As} : (A :: B :: C :: D :: S).Perm (D :: A :: B :: C :: S) := (List.Perm.cons _ f2).trans f1
theorem f4 {A B C D E : As} {S : List As} : (A :: B :: C :: D :: E :: S).Perm (E :: A :: B :: C :: D :: S) := (List.Perm.cons _ f3).trans f1
theorem f5 {A B C D E F : As} {S : List As} : (A :: B :: C :: D :: E :: F :: S).Perm (F :: A :: B :: C :: D :: E :: S) := (List.Perm.cons _ f4).trans f1
theorem f6 {A B C D E F G : As} {S : List As} : (A :: B :: C :: D :: E :: F :: G :: S).Perm (G :: A :: B :: C :: D :: E :: F :: S) := (List.Perm.cons _ f5).trans f1
theorem f7 {A B C D E F G H : As} {S : List As} : (A :: B :: C :: D :: E :: F :: G :: H :: S).Perm (H :: A :: B :: C :: D :: E :: F :: G :: S) := (List.Perm.cons _ f6).trans f1
theorem f8 {A B C D E F G H I : As} {S : List As} : (A :: B :: C :: D :: E :: F :: G :: H :: I :: S).Perm (I :: A :: B :: C :: D :: E :: F :: G :: H :: S) := (List.Perm.cons _ f7).trans f1
theorem f9 {A B C D E F G H I J : As} {S : List As} : (A :: B :: C :: D :: E :: F :: G :: H :: I :: J :: S).Perm (J :: A :: B :: C :: D :: E :: F :: G :: H :: I :: S) := (List.Perm.cons _ f8).trans f1

/-- What the head says may be dropped. -/
theorem drop0 {A : As} {S : List As} : ∀ w, Sat w (A :: S) → Sat w S := fun _ h => h.tail

/-! ### What can be read -/
theorem rd_own {S : List As} {v : Value} {e : TypeId} {size n : Nat} {xs : List Value} (h : own v e size n xs ∈ S) : ∀ w, Sat w S → Reads w v size n xs :=
  fun _ hS => own_reads (hS.all _ h)
theorem rd_tail {S : List As} {A : As} {v : Value} {size n : Nat} {xs : List Value} (h : ∀ w, Sat w S → Reads w v size n xs) : ∀ w, Sat w (A :: S) → Reads w v size n xs :=
  fun w hS => h w hS.tail

theorem add_lit' (g o j : Nat) : (⟨g, o, none⟩ : Addr).add j = ⟨g, o + j, none⟩ := by unfold Addr.add; split <;> simp_all

/-- The place of cell k of a slice. -/
def elemP (A : Option Addr) (k : Nat) : Value := .pointer (A.map (·.add k))

section
variable {P : Program} {L : Env} {S : List As} {dst : Option Tmp} {ty : TypeId} {pos : String} {af : Array Edge} {gd : Option (Nat × Bool)}

theorem p_index {x i : Operand} {t e : TypeId} {A : Option Addr} {n c size m kk : Nat} {k : IntKind} {j : Int} {xs : List Value} (ht : P.underlying t = some (.slice e)) (hz : (P.info? e).map (·.size) = some size)
    (hx : ev L x = some (.slice A n c)) (hi : ev L i = some (.int k j)) (hr : ∀ w, Sat w S → Reads w (.slice A n c) size m xs) (h0 : 0 ≤ j) (h1 : j < n) (hk : j.toNat * size = kk) :
    Pure1 P L S ⟨dst, .indexAddr t x i, ty, pos, af, gd⟩ (elemP A kk) := by
  intro ρ w hA hS
  obtain ⟨_, _, A', c', hv, _, _, hc⟩ := hr w hS
  simp only [Value.slice.injEq] at hv
  obtain ⟨rfl, rfl, rfl⟩ := hv
  obtain ⟨ad, rfl, _⟩ := hc (by omega)
  have hsz : (sizeOf e).run P w = .ok size w := by
    obtain ⟨i0, hi0, hi1⟩ := Option.map_eq_some_iff.1 hz
    simp [sizeOf, typeInfo, hi0, hi1]
  have he : P.elem t = e := by simp [Program.elem, ht]
  have hrun := run_indexAt_slice (P := P) (w := w) t ad n c k j (by rw [he]; exact ht)
  rw [if_pos ⟨h0, h1⟩, he, hsz] at hrun
  simp only [Result.andThen_ok, hk] at hrun
  simp [execOp, hA x _ hx, hA i _ hi, hrun, elemP]

def scalar : TypeDesc → Bool
  | .struct _ | .array _ _ => false
  | _ => true

theorem run_loadScalar {w : World} {T : TypeId} {d : TypeDesc} {a : Addr} {u : Value} (ht : P.underlying T = some d) (hd : scalar d = true) (hc : w.cell? a = some u) : (loadVar T a).run P w = .ok u w := by
  cases d <;> simp_all [loadVar, isAgg, run_underlying ht, scalar]

theorem p_loadE {x : Operand} {T : TypeId} {d : TypeDesc} {A : Option Addr} {n c size m k : Nat} {xs : List Value} {u : Value} (ht : P.underlying T = some d) (hd : scalar d = true) (hx : ev L x = some (elemP A k))
    (hr : ∀ w, Sat w S → Reads w (.slice A n c) size m xs) (hk : xs[k]? = some u) : Pure1 P L S ⟨dst, .load T x, ty, pos, af, gd⟩ u := by
  intro ρ w hA hS
  obtain ⟨hl, _, A', c', hv, _, _, hc⟩ := hr w hS
  simp only [Value.slice.injEq] at hv
  obtain ⟨rfl, rfl, rfl⟩ := hv
  have hpos : 0 < n := by
    rcases Nat.eq_zero_or_pos n with h | h
    · subst h; simp at hl; subst hl; simp at hk
    · exact h
  obtain ⟨ad, rfl, hcell⟩ := hc hpos
  have hx' : ρ x = .pointer (some (ad.add k)) := by rw [hA x _ hx]; rfl
  simp [execOp, hx', Instr.loadAt, Instr.sureAddr, run_loadScalar ht hd (hcell k u hk)]

/-- An element of several cells. -/
theorem p_loadEA {x : Operand} {T : TypeId} {d : TypeDesc} {A : Option Addr} {n c size m k q : Nat} {xs cs : List Value} (ht : P.underlying T = some d) (hd : scalar d = false) (hz : (P.info? T).map (·.size) = some q) (hx : ev L x = some (elemP A k))
    (hr : ∀ w, Sat w S → Reads w (.slice A n c) size m xs) (hq : cs.length = q) (h0 : 0 < m) (hk : ∀ j u, cs[j]? = some u → xs[k + j]? = some u) : Pure1 P L S ⟨dst, .load T x, ty, pos, af, gd⟩ (.agg cs.toArray) := by
  intro ρ w hA hS
  obtain ⟨hl, _, A', c', hv, _, _, hc⟩ := hr w hS
  simp only [Value.slice.injEq] at hv
  obtain ⟨rfl, rfl, rfl⟩ := hv
  obtain ⟨ad, rfl, hcell⟩ := hc h0
  have hx' : ρ x = .pointer (some (ad.add k)) := by rw [hA x _ hx]; rfl
  have hsz : (sizeOf T).run P w = .ok cs.length w := by
    obtain ⟨i0, hi0, hi1⟩ := Option.map_eq_some_iff.1 hz
    simp [sizeOf, typeInfo, hi0, hi1, hq]
  have hl : (loadCells (ad.add k) cs.length).run P w = .ok cs.toArray w :=
    run_loadCells_list (P := P) w (ad.add k) cs (fun j v hv => by
      have := hcell (k + j) v (hk j v hv)
      have e : (ad.add k).add j = ad.add (k + j) := by
        unfold Addr.add
        by_cases h1 : k = 0 <;> by_cases h2 : j = 0 <;> simp [h1, h2, Nat.add_assoc]
      rw [e]; exact this)
  have hlv : (loadVar T (ad.add k)).run P w = .ok (.agg cs.toArray) w := by
    cases d <;> simp_all [loadVar, isAgg, run_underlying ht, scalar]
  simp [execOp, hx', Instr.loadAt, Instr.sureAddr, hlv]

/-! ### Blocks -/
theorem blk_cell' {S : List As} {g : Nat} {cs : List Value} {t : TypeId} (h : blk g cs t ∈ S) {w : World} (hS : Sat w S) {o : Nat} {u : Value} (hu : cs[o]? = some u) : w.cell? ⟨g, o, none⟩ = some u := by
  have := hS.all _ h
  simp only [blk] at this
  simp [World.cell?, this, hu]

theorem p_load {x : Operand} {T : TypeId} {d : TypeDesc} {g o : Nat} {cs : List Value} {t : TypeId} {u : Value} (h : blk g cs t ∈ S) (ht : P.underlying T = some d) (hd : scalar d = true)
    (hx : ev L x = some (.pointer (some ⟨g, o, none⟩))) (hu : cs[o]? = some u) : Pure1 P L S ⟨dst, .load T x, ty, pos, af, gd⟩ u := by
  intro ρ w hA hS
  simp [execOp, hA x _ hx, Instr.loadAt, Instr.sureAddr, run_loadScalar ht hd (blk_cell' h hS hu)]

/-- A whole struct. -/
theorem p_loadA {x : Operand} {T : TypeId} {d : TypeDesc} {g : Nat} {cs : List Value} {t : TypeId} (h : blk g cs t ∈ S) (ht : P.underlying T = some d) (hd : scalar d = false) (hz : (P.info? T).map (·.size) = some cs.length)
    (hx : ev L x = some (.pointer (some ⟨g, 0, none⟩))) : Pure1 P L S ⟨dst, .load T x, ty, pos, af, gd⟩ (.agg cs.toArray) := by
  intro ρ w hA hS
  have hb := hS.all _ h
  simp only [blk] at hb
  have := run_loadVar_row (P := P) w g t T cs.toArray (0, 0) d hb ht (by cases d <;> simp_all [scalar]) (by simpa using hz)
  simp [execOp, hA x _ hx, Instr.loadAt, Instr.sureAddr, this]

theorem heap_set (w : World) (a : Addr) (u : Value) (b : Nat) (h : b ≠ a.block) : (w.setCell a u).heap[b]? = w.heap[b]? := by
  simp only [World.setCell]
  rw [Array.getElem?_modify]
  simp [Ne.symm h]

theorem heap_new (w : World) (o : Obj) : (w.alloc o).heap[w.heap.size]? = some o := by
  unfold World.alloc
  exact Array.getElem?_push_size
theorem heap_old (w : World) (o : Obj) (b : Nat) (h : b < w.heap.size) : (w.alloc o).heap[b]? = w.heap[b]? := by
  simp only [World.alloc]
  rw [Array.getElem?_push]
  simp [Nat.ne_of_lt h]

theorem chg_setCell (w : World) (g o : Nat) (u : Value) : Chg (fun b => b = g) w (w.setCell ⟨g, o, none⟩ u) :=
  ⟨rfl, rfl, rfl, by simp, fun b _ hn => heap_set w ⟨g, o, none⟩ u b hn⟩

theorem chg_alloc (w : World) (o : Obj) : Chg (fun _ => False) w (w.alloc o) :=
  ⟨rfl, rfl, rfl, by simp, fun b hb _ => heap_old w o b hb⟩

theorem chg_drew (w : World) : Chg (fun _ => False) w w.drew := ⟨rfl, rfl, rfl, Nat.le_refl _, fun _ _ _ => rfl⟩
theorem Chg.trans {A : Nat → Prop} {a b c : World} (h : Chg A a b) (k : Chg A b c) : Chg A a c :=
  ⟨k.os.trans h.os, k.tape.trans h.tape, k.output.trans h.output, Nat.le_trans h.size k.size, fun i hi hn => (k.block i (Nat.lt_of_lt_of_le hi h.size) hn).trans (h.block i hi hn)⟩
theorem Chg.weak {A B : Nat → Prop} {a b : World} (h : Chg A a b) (hab : ∀ i, A i → B i) : Chg B a b := ⟨h.os, h.tape, h.output, h.size, fun i hi hn => h.block i hi (fun ha => hn (hab i ha))⟩

theorem blk_set {w : World} {g o : Nat} {cs : List Value} {t : TypeId} {S : List As} (h : Sat w (blk g cs t :: S)) (u : Value) : Sat (w.setCell ⟨g, o, none⟩ u) (blk g (cs.set o u) t :: S) := by
  refine h.mod (chg_setCell w g o u) ?_ (fun b hb => .inl hb)
  have hb := h.1
  simp only [blk] at hb ⊢
  simp only [World.setCell]
  rw [Array.getElem?_modify]
  simp [hb]

theorem st_store {x y : Operand} {g o : Nat} {cs : List Value} {t T : TypeId} {u : Value} (hx : ev L x = some (.pointer (some ⟨g, o, none⟩))) (hy : ev L y = some u) (hu : u.oneCell' = true) (hz : (P.info? T).map (·.size) = some 1) (ho : o < cs.length) :
    Step P L (blk g cs t :: S) ⟨dst, .store T x y, ty, pos, af, gd⟩ (fun _ W => W = blk g (cs.set o u) t :: S) := by
  refine Step.of_skip fun ρ w hA hS => ⟨_, w.setCell ⟨g, o, none⟩ u, ?_, rfl, blk_set hS u⟩
  obtain ⟨i0, hi0, hi1⟩ := Option.map_eq_some_iff.1 hz
  have hc : w.cell? ⟨g, o, none⟩ = some cs[o] := blk_cell' (S := blk g cs t :: S) m0 hS (by simp [ho])
  have hf : w.frozen? ⟨g, o, none⟩ = false := by have := hS.1; simp only [blk] at this; simp [World.frozen?, this]
  have ha : (⟨g, o, none⟩ : Addr).add 0 = ⟨g, o, none⟩ := by simp [Addr.add]
  have hcells : u.cells = #[u] := by cases u <;> simp_all [Value.cells, Value.oneCell']
  have hst : (store ⟨g, o, none⟩ u).run P w = .ok () (w.setCell ⟨g, o, none⟩ u) := by
    cases u <;> simp_all [store, Sem.run, Value.oneCell']
  simp [execOp, hA x _ hx, hA y _ hy, Instr.storeAt, Instr.sureAddr, storeVar, sizeOf, typeInfo, hi0, hi1, hcells, storeCells, ha, hst]

theorem st_storeA {x y : Operand} {g : Nat} {cs us : List Value} {t T : TypeId} (hx : ev L x = some (.pointer (some ⟨g, 0, none⟩))) (hy : ev L y = some (.agg us.toArray)) (hu : us.all (·.oneCell') = true) (hz : (P.info? T).map (·.size) = some us.length) (ho : cs.length = us.length) :
    Step P L (blk g cs t :: S) ⟨dst, .store T x y, ty, pos, af, gd⟩ (fun _ W => W = blk g us t :: S) := by
  refine Step.of_skip fun ρ w hA hS => ⟨_, w.setRow g us.toArray, ?_, rfl, ?_⟩
  · have hb := hS.1
    simp only [blk] at hb
    have := run_storeVar_row (P := P) w g t T cs.toArray us.toArray hb (by simpa using hz) (by simpa using ho) (by simpa using hu)
    simp [execOp, hA x _ hx, hA y _ hy, Instr.storeAt, Instr.sureAddr, this]
  · have hb := hS.1
    simp only [blk] at hb
    refine hS.mod ⟨rfl, rfl, rfl, by simp [World.setRow], fun b _ hn => ?_⟩ ?_ (fun b hb => .inl hb)
    · simp only [World.setRow]
      rw [Array.getElem?_modify]
      have : ¬ g = b := fun e => hn e.symm
      simp [this]
    · simp only [blk, World.setRow]
      rw [Array.getElem?_modify]
      simp [hb]

theorem st_new {o : Oper} {cs : List Value} {t : TypeId} (hrun : ∀ ρ w, Agree L ρ → Sat w S → (execOp ρ o).run P w = .ok (.value (.pointer (some ⟨w.heap.size, 0, none⟩))) (w.alloc (.cells cs.toArray t))) :
    Step P L S o (fun v W => ∃ g, v = .pointer (some ⟨g, 0, none⟩) ∧ W = blk g cs t :: S) :=
  Step.of_run fun ρ w hA hS => ⟨_, _, _, hrun ρ w hA hS, ⟨_, rfl, rfl⟩, hS.new (chg_alloc w _) (heap_new w _) (fun b hb => by simp only [blk] at hb; omega)⟩

theorem st_alloc {t : TypeId} {z : Value} (hz : (P.info? t).map (·.zero) = some (some z)) :
    Step P L S ⟨dst, .alloc t, ty, pos, af, gd⟩ (fun v W => ∃ g, v = .pointer (some ⟨g, 0, none⟩) ∧ W = blk g z.cells.toList t :: S) := by
  refine st_new fun ρ w _ _ => ?_
  obtain ⟨i0, hi0, hi1⟩ := Option.map_eq_some_iff.1 hz
  simp [execOp, Instr.alloc, zeroValue, typeInfo, hi0, hi1, newVar, newRow, newObj, Sem.run]

theorem st_box {t : TypeId} {x : Operand} {v : Value} (hx : ev L x = some v) :
    Step P L S ⟨dst, .box t x, ty, pos, af, gd⟩ (fun u W => ∃ g, u = .pointer (some ⟨g, 0, none⟩) ∧ W = blk g v.cells.toList t :: S) := by
  refine st_new fun ρ w hA _ => ?_
  simp [execOp, hA x _ hx, Instr.box, newVar, newRow, newObj, Sem.run]

def evp (L : Env) : List (Nat × Operand) → Option (List (Nat × Value))
  | [] => some []
  | (i, x) :: r => match ev L x, evp L r with
    | some v, some vs => some ((i, v) :: vs)
    | _, _ => none

theorem Agree.evp {ρ : Operand → Value} (h : Agree L ρ) : ∀ (xs : List (Nat × Operand)) (vs : List (Nat × Value)), V.evp L xs = some vs → xs.map (fun (i, x) => (i, ρ x)) = vs := by
  intro xs
  induction xs with
  | nil => intro vs hv; simpa [V.evp] using hv
  | cons x r ih =>
    intro vs hv
    obtain ⟨i, x⟩ := x
    unfold V.evp at hv
    split at hv
    · rename_i v ws h1 h2
      obtain rfl := Option.some.inj hv
      simp [h x v h1, ih ws h2]
    · cases hv

theorem p_build {t : TypeId} {parts : List (Nat × Operand)} {vs : List (Nat × Value)} {cs : Array Value} (hp : evp L parts = some vs) (hr : ∀ w, (Instr.build t vs.toArray).run P w = .ok (.agg cs) w) :
    Pure1 P L S ⟨dst, .build t parts.toArray, ty, pos, af, gd⟩ (.agg cs) := by
  intro ρ w hA _
  have := hA.evp parts vs hp
  simp only [execOp, List.map_toArray, this]
  simp [hr]

/-! ### Rows -/
theorem own_new {w : World} {S : List As} {e : TypeId} {size n : Nat} {cells : Array Value} (h : Sat w S) (hn : n ≤ 9223372036854775807) (hs : cells.size = n * size) :
    Sat (w.alloc (.cells cells e)) (own (.slice (some ⟨w.heap.size, 0, none⟩) n n) e size n cells.toList :: S) := by
  refine h.new (chg_alloc w _) ?_ (fun b hb => by simp [own, Value.ownBlock] at hb; omega)
  exact World.ownsRow_lit (base := 0) (e := e) (size := size) w cells n (Nat.zero_le _) (by simpa [maxLen] using hn) hs

theorem st_buildSlice {t e : TypeId} {len size : Nat} {parts : List (Nat × Operand)} {vs : List (Nat × Value)} {cells : List Value} (hp : evp L parts = some vs)
    (hr : ∀ w, (Instr.buildSlice t len vs.toArray).run P w = .ok (.slice (some ⟨w.heap.size, 0, none⟩) len len) (w.alloc (.cells cells.toArray e))) (hs : cells.length = len * size) (hl : len ≤ 16777216) :
    Step P L S ⟨dst, .buildSlice t len parts.toArray, ty, pos, af, gd⟩ (fun v W => ∃ g, v = .slice (some ⟨g, 0, none⟩) len len ∧ W = own v e size len cells :: S) := by
  refine Step.of_run fun ρ w hA hS => ⟨_, _, w.alloc (.cells cells.toArray e), ?_, ⟨w.heap.size, rfl, rfl⟩, own_new (cells := cells.toArray) hS (by omega) (by simpa using hs)⟩
  have hpp := hA.evp parts vs hp
  simp only [execOp, List.map_toArray, hpp]
  simp [hr]

theorem own_form {w : World} {A : Option Addr} {n m c size : Nat} {e : TypeId} {xs : List Value} (h : (own (.slice A n c) e size m xs).holds w) : n = m := by
  rcases h.2 with ⟨h2, h3⟩ | ⟨g, cap, cur, h2, r⟩
  · injection h2; omega
  · injection h2

/-- append(s, xs...): s is one's own. -/
theorem st_append {s x : Operand} {t e : TypeId} {z : Value} {size bytes n m c : Nat} {v : Value} {B : Option Addr} {xs ys : List Value} (ht : P.underlying t = some (.slice e))
    (hi : (P.info? e).map (fun i => (i.zero, i.size, i.bytes)) = some (some z, size, bytes)) (hz : z.cells.size = size) (hs0 : 0 < size)
    (hs : ev L s = some v) (hx : ev L x = some (.slice B m c)) (hr : ∀ w, Sat w (own v e size n xs :: S) → Reads w (.slice B m c) size m ys) (h1 : ∀ u ∈ ys, u.oneCell' = true) (hb : (n + m) * bytes ≤ 140737488355328 ∧ n + m ≤ 140737488355328) :
    Step P L (own v e size n xs :: S) ⟨dst, .call { callee := .builtin .append, args := #[s, x], argTypes := #[t, t] }, ty, pos, af, gd⟩
      (fun u W => ∃ A c', u = .slice A (n + m) c' ∧ W = own (.slice A (n + m) c') e size (n + m) (xs ++ ys) :: S) := by
  obtain ⟨i0, hi0, hzz⟩ := Option.map_eq_some_iff.1 hi
  simp only [Prod.mk.injEq] at hzz
  obtain ⟨hz0, hz1, hz2⟩ := hzz
  refine Step.of_run fun ρ w hA hS => ?_
  have hown : w.ownsRow 0 e size v n xs := hS.1
  obtain ⟨hyl, _, B', c', hv, _, _, hc⟩ := hr w hS
  simp only [Value.slice.injEq] at hv
  obtain ⟨rfl, _, rfl⟩ := hv
  have key : ∃ v' w', (Builtin.append_ #[t, t] ty #[v, .slice B m c]).run P w = .ok v' w' ∧ w'.ownsRow 0 e size v' (n + m) (xs ++ ys) ∧ w.grownBy w' v.ownBlock ∧ (v'.ownBlock = v.ownBlock ∨ v'.ownBlock = some w.heap.size) := by
    rcases Nat.eq_zero_or_pos m with h0 | h0
    · subst h0
      have hy : ys = [] := List.eq_nil_of_length_eq_zero (by simpa using hyl)
      subst hy
      refine ⟨v, w, ?_, by simpa using hown, World.grownBy.refl w _, .inl rfl⟩
      have hfc : (Builtin.firstCells i0.size 0 (.slice B 0 c)).run P w = .ok #[] w := by
        cases B <;> simp [Builtin.firstCells, loadCells, loadCellsFrom]
      rcases hown.2 with ⟨rfl, hn⟩ | ⟨g, cap, cur, rfl, _, _, hnc, _⟩
      · simp [Builtin.append_, run_underlying ht, sizeOf, typeInfo, hi0, Builtin.lenOf, hfc]
      · simp [Builtin.append_, run_underlying ht, sizeOf, typeInfo, hi0, Builtin.lenOf, hfc, hnc, storeCells]
    · obtain ⟨ad, rfl, hcell⟩ := hc h0
      obtain ⟨v1, w1, hr1, hown1, hg, _, hat⟩ := run_append_own_at (P := P) w 0 t ty e i0 z size bytes ht hi0 hz0 hz1 hz2 hz hs0 v n xs hown ad m c ys (by simpa using hyl) hcell h1 (by simp only [maxLen]; omega) hb.1 (Nat.zero_le _)
      exact ⟨v1, w1, hr1, hown1, hg, hat⟩
  obtain ⟨v1, w1, hr1, hown1, hg, hat⟩ := key
  obtain ⟨A1, c1, rfl⟩ : ∃ A c', v1 = .slice A (n + m) c' := by
    rcases hown1.2 with ⟨rfl, h0⟩ | ⟨g, cap, cur, rfl, _⟩
    · exact ⟨none, 0, by rw [h0]⟩
    · exact ⟨_, cap, rfl⟩
  refine ⟨_, _, w1, ?_, ⟨A1, c1, rfl, rfl⟩, hS.mod (A := own v e size n xs) ⟨hg.os, hg.tape, hg.output, hg.size, fun b hb hn => hg.block b hb (fun h => hn h.symm)⟩ hown1 ?_⟩
  · simp [execOp, resolve, invoke, builtin, hA s _ hs, hA x _ hx, hr1]
  · intro b hb
    simp only [own] at hb ⊢
    rcases hat with hat | hat
    · exact .inl (hat ▸ hb)
    · right; rw [hat] at hb; injection hb; omega

/-- append(s, xs...): s can be read, and there is no room behind it. -/
theorem st_appendG {s x : Operand} {t e : TypeId} {z : Value} {size bytes n m c cap : Nat} {A B : Option Addr} {xs ys : List Value} (ht : P.underlying t = some (.slice e))
    (hi : (P.info? e).map (fun i => (i.zero, i.size, i.bytes)) = some (some z, size, bytes)) (hz : z.cells.size = size) (hs0 : 0 < size)
    (hs : ev L s = some (.slice A n cap)) (hx : ev L x = some (.slice B m c)) (hrs : ∀ w, Sat w S → Reads w (.slice A n cap) size n xs) (hr : ∀ w, Sat w S → Reads w (.slice B m c) size m ys)
    (hn : 0 < n) (hm : 0 < m) (hcap : cap < n + m) (hb : (n + m) * bytes ≤ 140737488355328 ∧ n + m ≤ 140737488355328) :
    Step P L S ⟨dst, .call { callee := .builtin .append, args := #[s, x], argTypes := #[t, t] }, ty, pos, af, gd⟩
      (fun u W => ∃ A c', u = .slice A (n + m) c' ∧ W = own (.slice A (n + m) c') e size (n + m) (xs ++ ys) :: S) := by
  obtain ⟨i0, hi0, hzz⟩ := Option.map_eq_some_iff.1 hi
  simp only [Prod.mk.injEq] at hzz
  obtain ⟨hz0, hz1, hz2⟩ := hzz
  refine Step.of_run fun ρ w hA hS => ?_
  obtain ⟨hxl, _, A', c1, hv, _, _, hc1⟩ := hrs w hS
  simp only [Value.slice.injEq] at hv
  obtain ⟨rfl, _, rfl⟩ := hv
  obtain ⟨hyl, _, B', c2, hv, _, _, hc2⟩ := hr w hS
  simp only [Value.slice.injEq] at hv
  obtain ⟨rfl, _, rfl⟩ := hv
  obtain ⟨ad, rfl, hcell⟩ := hc1 hn
  obtain ⟨bd, rfl, hcell2⟩ := hc2 hm
  obtain ⟨v1, w1, hr1, hown1, hg⟩ := run_append_arg_grows (P := P) w t ty e i0 z size bytes ht hi0 hz0 hz1 hz2 hz hs0 ad n cap xs hxl hcell bd m c ys hyl hcell2 hcap (by simp only [maxLen]; omega) hb.1
  obtain ⟨A1, c3, rfl⟩ : ∃ A c', v1 = .slice A (n + m) c' := by
    rcases hown1.2 with ⟨rfl, h0⟩ | ⟨g, cap, cur, rfl, _⟩
    · exact ⟨none, 0, by rw [h0]⟩
    · exact ⟨_, cap, rfl⟩
  refine ⟨_, _, w1, ?_, ⟨A1, c3, rfl, rfl⟩, hS.new ⟨hg.os, hg.tape, hg.output, hg.size, fun b hb _ => hg.block b hb (by simp)⟩ ?_ ?_⟩
  · simp [execOp, resolve, invoke, builtin, hA s _ hs, hA x _ hx, hr1]
  · refine ⟨hown1.1, ?_⟩
    rcases hown1.2 with h2 | ⟨g, cap, cur, h2, hg2, r⟩
    · exact .inl h2
    · exact .inr ⟨g, cap, cur, h2, Nat.zero_le _, r⟩
  · intro b hb
    simp only [own] at hb
    rcases hown1.2 with ⟨h2, _⟩ | ⟨g, cap, cur, h2, hg2, r⟩
    · rw [h2] at hb; simp [Value.ownBlock] at hb
    · rw [h2] at hb; simp [Value.ownBlock] at hb; omega

/-- xs[k] = u -/
theorem st_storeE {x y : Operand} {T e : TypeId} {A : Option Addr} {n c m k : Nat} {xs : List Value} {u : Value} (hx : ev L x = some (elemP A k)) (hy : ev L y = some u) (hu : u.oneCell' = true) (hz : (P.info? T).map (·.size) = some 1) (hk : k < m) :
    Step P L (own (.slice A n c) e 1 m xs :: S) ⟨dst, .store T x y, ty, pos, af, gd⟩ (fun _ W => W = own (.slice A n c) e 1 m (xs.set k u) :: S) := by
  refine Step.of_skip fun ρ w hA hS => ?_
  have hown : w.ownsRow 0 e 1 (.slice A n c) m xs := hS.1
  obtain ⟨hl, h2⟩ := hown
  rcases h2 with ⟨_, h0⟩ | ⟨g, cap, cur, hv, _, hh, hmc, hcm, hcs, htk⟩
  · omega
  simp only [Value.slice.injEq] at hv
  obtain ⟨rfl, rfl, rfl⟩ := hv
  have hxs : (World.ownsRow w 0 e 1 (.slice (some ⟨g, 0, none⟩) n c) n xs) := hS.1
  have hs := World.ownsRow.stored hxs k u
  obtain ⟨i0, hi0, hi1⟩ := Option.map_eq_some_iff.1 hz
  have hxp : ρ x = .pointer (some ⟨g, k, none⟩) := by rw [hA x _ hx]; simp [elemP, add_lit']
  have hc : w.cell? ⟨g, k, none⟩ = cur[k]? := by simp [World.cell?, hh]
  have hck : cur[k]? = some cur[k]! := by
    have : k < cur.size := by omega
    simp [this]
  have hf : w.frozen? ⟨g, k, none⟩ = false := by simp [World.frozen?, hh]
  have ha : (⟨g, k, none⟩ : Addr).add 0 = ⟨g, k, none⟩ := by simp [Addr.add]
  have hcells : u.cells = #[u] := by cases u <;> simp_all [Value.cells, Value.oneCell']
  have hst : (store ⟨g, k, none⟩ u).run P w = .ok () (w.setCell ⟨g, k, none⟩ u) := by
    rw [hck] at hc
    cases u <;> simp_all [store, Sem.run, Value.oneCell']
  refine ⟨_, w.setCell ⟨g, k, none⟩ u, ?_, rfl, hS.mod ((chg_setCell w g k u).weak (fun b hb => by simp [own, Value.ownBlock]; exact hb.symm)) hs.1 (fun b hb => .inl hb)⟩
  simp [execOp, hxp, hA y _ hy, Instr.storeAt, Instr.sureAddr, storeVar, sizeOf, typeInfo, hi0, hi1, hcells, storeCells, ha, hst]
end

/-! ### Slices of slices -/
def slA (A : Option Addr) (c l size : Nat) : Option Addr := if c = l then A else A.map (·.add (l * size))

section
variable {P : Program} {L : Env} {S : List As} {dst : Option Tmp} {ty : TypeId} {pos : String} {af : Array Edge} {gd : Option (Nat × Bool)}

theorem run_slice {w : World} {t e size n c l h : Nat} {A : Option Addr} {lo hi : Option Value} {k1 k2 : IntKind} (ht : P.underlying t = some (.slice e)) (hz : (P.info? e).map (·.size) = some size)
    (hlo : lo = some (.int k1 (l : Int)) ∨ (lo = none ∧ l = 0)) (hhi : hi = some (.int k2 (h : Int)) ∨ (hi = none ∧ h = n)) (h1 : l ≤ h) (h2 : h ≤ c) :
    (Instr.sliceAt t (.slice A n c) lo hi none).run P w = .ok (.slice (slA A c l size) (h - l) (c - l)) w := by
  have hsz : (sizeOf e).run P w = .ok size w := by
    obtain ⟨i0, hi0, hi1⟩ := Option.map_eq_some_iff.1 hz
    simp [sizeOf, typeInfo, hi0, hi1]
  have e1 : (Instr.sliceBounds true n c lo hi none).run P w = .ok (l, h, c) w := by
    rcases hlo with rfl | ⟨rfl, rfl⟩ <;> rcases hhi with rfl | ⟨rfl, rfl⟩ <;>
      simp [Instr.sliceBounds, Instr.sliceBound, asIntOf, h1, h2]
  simp [Instr.sliceAt, Instr.slice, run_underlying ht, e1, hsz, slA]

/-- x[lo:hi] -/
theorem p_slice {x lo hi : Operand} {t e size n c l h : Nat} {A : Option Addr} {k1 k2 : IntKind} {a b : Int} (ht : P.underlying t = some (.slice e)) (hz : (P.info? e).map (·.size) = some size) (hx : ev L x = some (.slice A n c))
    (hlo : ev L lo = some (.int k1 a)) (hhi : ev L hi = some (.int k2 b)) (ha : a = (l : Int)) (hb : b = (h : Int)) (h1 : l ≤ h) (h2 : h ≤ c) :
    Pure1 P L S ⟨dst, .slice t x (some lo) (some hi) none, ty, pos, af, gd⟩ (.slice (slA A c l size) (h - l) (c - l)) := by
  intro ρ w hA _
  subst ha; subst hb
  simp [execOp, hA x _ hx, hA lo _ hlo, hA hi _ hhi, run_slice ht hz (.inl rfl) (.inl rfl) h1 h2]
/-- x[:hi] -/
theorem p_sliceH {x hi : Operand} {t e size n c h : Nat} {A : Option Addr} {k2 : IntKind} {b : Int} (ht : P.underlying t = some (.slice e)) (hz : (P.info? e).map (·.size) = some size) (hx : ev L x = some (.slice A n c))
    (hhi : ev L hi = some (.int k2 b)) (hb : b = (h : Int)) (h2 : h ≤ c) :
    Pure1 P L S ⟨dst, .slice t x none (some hi) none, ty, pos, af, gd⟩ (.slice (slA A c 0 size) (h - 0) (c - 0)) := by
  intro ρ w hA _
  subst hb
  have := run_slice (P := P) (w := w) (A := A) (n := n) (k1 := .i64) (lo := none) (l := 0) ht hz (.inr ⟨rfl, rfl⟩) (.inl (rfl : some (Value.int k2 (h : Int)) = _)) (Nat.zero_le _) h2
  simp [execOp, hA x _ hx, hA hi _ hhi] at this ⊢
  simp [this]
/-- x[lo:] -/
theorem p_sliceL {x lo : Operand} {t e size n c l : Nat} {A : Option Addr} {k1 : IntKind} {a : Int} (ht : P.underlying t = some (.slice e)) (hz : (P.info? e).map (·.size) = some size) (hx : ev L x = some (.slice A n c))
    (hlo : ev L lo = some (.int k1 a)) (ha : a = (l : Int)) (h1 : l ≤ n) (h2 : n ≤ c) :
    Pure1 P L S ⟨dst, .slice t x (some lo) none none, ty, pos, af, gd⟩ (.slice (slA A c l size) (n - l) (c - l)) := by
  intro ρ w hA _
  subst ha
  have := run_slice (P := P) (w := w) (A := A) (n := n) (h := n) (k2 := .i64) (hi := none) ht hz (.inl (rfl : some (Value.int k1 (l : Int)) = _)) (.inr ⟨rfl, rfl⟩) h1 h2
  simp [execOp, hA x _ hx, hA lo _ hlo, this]
end

theorem rd_slice {w : World} {A : Option Addr} {size n c l h : Nat} {xs : List Value} (hr : Reads w (.slice A n c) size n xs) (h1 : l ≤ h) (h2 : h ≤ n) :
    Reads w (.slice (slA A c l size) (h - l) (c - l)) size (h - l) ((xs.drop (l * size)).take ((h - l) * size)) := by
  obtain ⟨hl, hn, A', c', hv, hnc, hcc, hc⟩ := hr
  simp only [Value.slice.injEq] at hv
  obtain ⟨rfl, _, rfl⟩ := hv
  have hle : h * size ≤ n * size := Nat.mul_le_mul_right _ h2
  have hle2 : l * size ≤ h * size := Nat.mul_le_mul_right _ h1
  have hsub : (h - l) * size = h * size - l * size := Nat.sub_mul ..
  refine ⟨by simp [hl]; omega, by omega, _, _, rfl, by omega, by omega, fun h0 => ?_⟩
  obtain ⟨ad, rfl, hcell⟩ := hc (by omega)
  refine ⟨ad.add (l * size), by simp only [slA]; rw [if_neg (by omega)]; rfl, fun j u hj => ?_⟩
  have hj2 : xs[l * size + j]? = some u := by
    rw [List.getElem?_take] at hj
    split at hj
    · rwa [List.getElem?_drop] at hj
    · cases hj
  have ha : (ad.add (l * size)).add j = ad.add (l * size + j) := by
    unfold Addr.add
    by_cases h1 : l * size = 0 <;> by_cases h2 : j = 0 <;> simp [h1, h2, Nat.add_assoc]
  rw [ha]
  exact hcell _ _ hj2

theorem itemin (a b : Int) : (if b < a then b else a) = min a b := by split <;> omega
theorem itemax (a b : Int) : (if b > a then b else a) = max a b := by split <;> omega

end V
end Go.Proofs.YtaflcjoagfnhfaaGreatDoor
