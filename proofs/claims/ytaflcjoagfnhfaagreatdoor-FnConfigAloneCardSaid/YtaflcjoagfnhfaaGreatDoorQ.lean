/- What a made-up file looks like. -/
import Derived.Test.YtaflcjoagfnhfaaGreatDoorP
namespace Go.Proofs.YtaflcjoagfnhfaaGreatDoor
namespace V
open Go Go.Proofs

theorem mulE {a b q : Nat} (h : a * b = q) (hb : q ≤ 4611686018427387904) : IntKind.i64.wrap ((a : Int) * (b : Int)) = (q : Int) := by
  rw [w64 (by rw [← Int.natCast_mul, h]; omega), ← Int.natCast_mul, h]
theorem cellB {a W H C N : Nat} (hN : H * W * C = N) (ha : a < H) : a * W * C + W * C ≤ N := by
  rw [← hN, ← Nat.add_mul, ← Nat.succ_mul]
  exact Nat.mul_le_mul_right _ (Nat.mul_le_mul_right _ ha)
theorem rd_slice64 {S : List As} {A : Option Addr} {n c lo hi : Nat} {l : List Int} (hr : ∀ w, Sat w S → Reads w (.slice A n c) 1 n (in64 l)) (h1 : lo ≤ hi) (h2 : hi ≤ n) :
    ∀ w, Sat w S → Reads w (.slice (slA A c lo 1) (hi - lo) (c - lo)) 1 (hi - lo) (in64 ((l.drop lo).take (hi - lo))) := by
  intro w h
  have := rd_slice (hr w h) h1 h2
  rwa [show ((in64 l).drop (lo * 1)).take ((hi - lo) * 1) = in64 ((l.drop lo).take (hi - lo)) by simp [in64, List.map_take, List.map_drop]] at this

/-- What holds of the shapes that the law makes. -/
structure Tif.Ok (t : Tif) : Prop where
  w : 1 ≤ t.wide ∧ t.wide ≤ 96
  h : 1 ≤ t.high ∧ t.high ≤ 40
  c : 0 ≤ t.colour ∧ t.colour ≤ 3
  a : 0 ≤ t.alpha ∧ t.alpha ≤ 2
  d : t.depth = 1 ∨ t.depth = 8 ∨ t.depth = 16
  d3 : t.colour = 3 → t.depth = 8
  d2 : t.colour = 2 → t.depth ≠ 1
  p : 0 ≤ t.packing ∧ t.packing ≤ 65535
  tile : t.tileW = 0 ∨ ((16 ≤ t.tileW ∧ t.tileW ≤ 32) ∧ (16 ≤ t.tileH ∧ t.tileH ≤ 32))
  r : 1 ≤ t.rows ∧ t.rows ≤ 40

/-- An entry of the directory. -/
structure Ent where
  tag : Int
  kind : Int
  nums : List Int
def Ent.size (e : Ent) : Nat := if e.kind = 4 then 4 else 2
def Ent.body (big : Bool) (e : Ent) : List Int := e.nums.flatMap (num big e.size)
def Ent.head (big : Bool) (e : Ent) : List Int := num big 2 e.tag ++ (num big 2 e.kind ++ num big 4 (e.nums.length : Int))
/-- Twelve bytes that stand for an entry, over the bytes behind the directory. -/
def Placed (big : Bool) (base : Int) (tail p : List Int) (e : Ent) : Prop :=
  ((e.body big).length ≤ 4 ∧ p = e.head big ++ (e.body big ++ List.replicate (4 - (e.body big).length) 0)) ∨
  (4 < (e.body big).length ∧ ∃ o : Nat, p = e.head big ++ num big 4 (base + (o : Int)) ∧ (tail.drop o).take (e.body big).length = e.body big ∧ o + (e.body big).length ≤ tail.length)
theorem Placed.grow {big : Bool} {base : Int} {tail p : List Int} {e : Ent} (h : Placed big base tail p e) (x : List Int) : Placed big base (tail ++ x) p e := by
  rcases h with h | ⟨h, o, h1, h2, h3⟩
  · exact .inl h
  · refine .inr ⟨h, o, h1, ?_, by rw [List.length_append]; omega⟩
    rw [List.drop_append_of_le_length (by omega), List.take_append_of_le_length (by rw [List.length_drop]; omega)]
    exact h2
theorem flat_len {big : Bool} {n : Nat} : ∀ (l : List Int), (l.flatMap (num big n)).length = l.length * n
  | [] => by simp
  | x :: r => by rw [List.flatMap_cons, List.length_append, num_length, flat_len r, List.length_cons, Nat.succ_mul]; omega
theorem Ent.body_length (big : Bool) (e : Ent) : (e.body big).length = e.nums.length * e.size := flat_len _
theorem Ent.head_length (big : Bool) (e : Ent) : (e.head big).length = 8 := by simp [Ent.head, num_length]

/-- The directory, as far as it has come. -/
def E1 (t : Tif) : List Ent := [⟨256, 3, [t.wide]⟩, ⟨257, 4, [t.high]⟩, ⟨258, 3, List.replicate t.chan.toNat t.depth⟩, ⟨259, 3, [t.packing]⟩, ⟨262, 3, [t.colour]⟩]
def E2 (t : Tif) (pl : List Int) : List Ent := E1 t ++ if t.tileW = 0 then [⟨273, 4, pl⟩] else []
def E3 (t : Tif) (pl : List Int) : List Ent := E2 t pl ++ [⟨277, 3, [t.chan]⟩]
def E4 (t : Tif) (pl sz : List Int) : List Ent := E3 t pl ++ if t.tileW = 0 then [⟨278, 4, [t.rows]⟩, ⟨279, 4, sz⟩] else []
def E5 (t : Tif) (pl sz : List Int) : List Ent := E4 t pl sz ++ if t.ahead = true then [⟨317, 3, [2]⟩] else []
def E6 (t : Tif) (pal : List RGB) (pl sz : List Int) : List Ent := E5 t pl sz ++ if t.colour = 3 then [⟨320, 3, colorsL pal⟩] else []
def E7 (t : Tif) (pal : List RGB) (pl sz : List Int) : List Ent := E6 t pal pl sz ++ if t.tileW > 0 then [⟨322, 3, [t.tileW]⟩, ⟨323, 3, [t.tileH]⟩, ⟨324, 4, pl⟩, ⟨325, 4, sz⟩] else []
def E8 (t : Tif) (pal : List RGB) (pl sz : List Int) : List Ent := E7 t pal pl sz ++ if t.colour = 2 ∧ t.alpha > 0 then [⟨338, 3, [t.alpha]⟩] else []

def sig (big : Bool) : List Int := if big then [77, 77] else [73, 73]
theorem sig_length (big : Bool) : (sig big).length = 2 := by cases big <;> rfl
def hd8 (big : Bool) (R : Nat) : List Int := sig big ++ (num big 2 42 ++ num big 4 (8 + (R : Int)))
theorem hd8_length (big : Bool) (R : Nat) : (hd8 big R).length = 8 := by simp [hd8, sig_length, num_length]
def NB (l : List Int) : Prop := ∀ x ∈ l, 0 ≤ x ∧ x ≤ 4000000000
/-- What the bytes behind the rows look like. -/
structure Dir (t : Tif) (pal : List RGB) (R : Nat) (z : List Int) (pl sz tail : List Int) (ps : List (List Int)) : Prop where
  eq : z = num t.big 2 ((E8 t pal pl sz).length : Int) ++ (ps.flatten ++ ([0, 0, 0, 0] ++ tail))
  tl : tail.length ≤ 1000000
  plN : NB pl
  szN : NB sz
  pl0 : 1 ≤ pl.length
  sz0 : 1 ≤ sz.length
  pl1 : pl.length ≤ 1000
  sz1 : sz.length ≤ 1000
  psN : ps.length = (E8 t pal pl sz).length
  each : ∀ (j : Nat) p e, ps[j]? = some p → (E8 t pal pl sz)[j]? = some e → Placed t.big (8 + (R : Int) + 2 + 12 * ((E8 t pal pl sz).length : Int) + 4) tail p e
/-- The file. -/
def Laid (t : Tif) (pal : List RGB) (b : List Int) : Prop :=
  ∃ rest z pl sz tail ps, b = hd8 t.big rest.length ++ (rest ++ z) ∧ 1 ≤ rest.length ∧ rest.length ≤ 100000000 ∧ Dir t pal rest.length z pl sz tail ps

/-- An entry in memory. -/
structure EV where
  tag : Int
  kind : Int
  v : Value
  nums : List Int
def EV.ent (e : EV) : Ent := ⟨e.tag, e.kind, e.nums⟩
def EV.cells (e : EV) : List Value := [.int .i64 e.tag, .int .i64 e.kind, e.v]
structure EInv (F G : List As) (plV szV : Value) (pl sz : List Int) (es : List EV) (n : Nat) (st : List Ent) : Prop where
  ents : es.map EV.ent = st
  len : es.length = n
  rd : ∀ e ∈ es, ∀ w, Sat w G → Reads w e.v 1 e.nums.length (in64 e.nums)
  sub : ∀ B, B ∈ F → B ∈ G
  sat : ∀ w, Sat w G → Sat w F
  pl : ∀ w, Sat w G → Reads w plV 1 pl.length (in64 pl)
  sz : ∀ w, Sat w G → Reads w szV 1 sz.length (in64 sz)
theorem EInv.eq {F G : List As} {plV szV : Value} {pl sz : List Int} {es : List EV} {n : Nat} {st st' : List Ent} (h : EInv F G plV szV pl sz es n st) (e : st = st') : EInv F G plV szV pl sz es n st' := e ▸ h
theorem EInv.old {F G : List As} {plV szV : Value} {pl sz : List Int} {es : List EV} {n : Nat} {st : List Ent} (h : EInv F G plV szV pl sz es n st) {v : Value} {nums : List Int} (tag kind : Int)
    (hv : ∀ w, Sat w G → Reads w v 1 nums.length (in64 nums)) : EInv F G plV szV pl sz (es ++ [⟨tag, kind, v, nums⟩]) (n + 1) (st ++ [⟨tag, kind, nums⟩]) where
  ents := by rw [List.map_append, h.ents]; rfl
  len := by rw [List.length_append, h.len]; rfl
  rd := fun e he w hw => by
    rcases List.mem_append.1 he with he | he
    · exact h.rd e he w hw
    · simp only [List.mem_singleton] at he; subst he; exact hv w hw
  sub := h.sub
  sat := h.sat
  pl := h.pl
  sz := h.sz
theorem EInv.push {F G : List As} {plV szV : Value} {pl sz : List Int} {es : List EV} {n : Nat} {st : List Ent} (h : EInv F G plV szV pl sz es n st) (B : As) : EInv F (B :: G) plV szV pl sz es n st where
  ents := h.ents
  len := h.len
  rd := fun e he w hw => h.rd e he w hw.tail
  sub := fun C hC => List.mem_cons_of_mem _ (h.sub C hC)
  sat := fun w hw => h.sat w hw.tail
  pl := fun w hw => h.pl w hw.tail
  sz := fun w hw => h.sz w hw.tail
theorem EInv.snoc {F G : List As} {plV szV v : Value} {pl sz : List Int} {es : List EV} {n k : Nat} {st : List Ent} (h : EInv F G plV szV pl sz es n st) {nums : List Int} (tag kind : Int) (hk : nums.length = k) :
    EInv F (own v 3 1 k (in64 nums) :: G) plV szV pl sz (es ++ [⟨tag, kind, v, nums⟩]) (n + 1) (st ++ [⟨tag, kind, nums⟩]) :=
  (h.push _).old tag kind (by subst hk; exact rd_own m0)
theorem ev_snoc (es : List EV) (tag kind : Int) (v : Value) (nums : List Int) : es.flatMap EV.cells ++ [.int .i64 tag, .int .i64 kind, v] = (es ++ [(⟨tag, kind, v, nums⟩ : EV)]).flatMap EV.cells := by simp [EV.cells]
theorem Reads.slice {w : World} {v : Value} {size n : Nat} {xs : List Value} (h : Reads w v size n xs) : ∃ A c, v = .slice A n c := by
  obtain ⟨_, _, A, c, hv, _⟩ := h; exact ⟨A, c, hv⟩
/-- Bounds on what stands in a directory. -/
structure EB (es : List EV) : Prop where
  n : es.length ≤ 16
  k : ∀ e ∈ es, e.nums.length ≤ 1000

end V
end Go.Proofs.YtaflcjoagfnhfaaGreatDoor
