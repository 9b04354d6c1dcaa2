/- What each operation computes: copies, numbers, tests, places. -/
import Derived.Test.YtaflcjoagfnhfaaGreatDoorB
import Derived.IntWalk
namespace Go.Proofs.YtaflcjoagfnhfaaGreatDoor
namespace V
open Go

theorem w64 {n : Int} (h : -9223372036854775808 ≤ n ∧ n ≤ 9223372036854775807) : IntKind.i64.wrap n = n := IntWalk.i64_in n h
theorem wu8 {n : Int} (h : 0 ≤ n ∧ n ≤ 255) : IntKind.u8.wrap n = n := IntWalk.u8_in n h
theorem wu16 {n : Int} (h : 0 ≤ n ∧ n ≤ 65535) : IntKind.u16.wrap n = n := IntWalk.u16_in n h
theorem wu32 {n : Int} (h : 0 ≤ n ∧ n ≤ 4294967295) : IntKind.u32.wrap n = n := IntWalk.u32_in n h
theorem wu64 {n : Int} (h : 0 ≤ n ∧ n ≤ 18446744073709551615) : IntKind.u64.wrap n = n := IntWalk.u64_in n h
theorem mu8 (n : Int) : IntKind.u8.wrap n = n % 256 := IntKind.wrap_u8 n
theorem mu32 (n : Int) : IntKind.u32.wrap n = n % 4294967296 := IntKind.wrap_u32 n
theorem mu16 (n : Int) : IntKind.u16.wrap n = n % 65536 := by simp [IntKind.wrap, IntKind.bits, IntKind.signed]
theorem mu64 (n : Int) : IntKind.u64.wrap n = n % 18446744073709551616 := by simp [IntKind.wrap, IntKind.bits, IntKind.signed]
theorem q64 {x y : Int} (h : 0 ≤ x ∧ x ≤ 9223372036854775807 ∧ 1 ≤ y) : IntKind.i64.wrap (x.tdiv y) = x / y := IntWalk.i64_quo x y h
theorem qu32 {x y : Int} (h : 0 ≤ x ∧ x ≤ 4294967295 ∧ 1 ≤ y) : IntKind.u32.wrap (x.tdiv y) = x / y := by
  rw [Int.tdiv_eq_ediv_of_nonneg h.1]
  have h1 : 0 ≤ x / y := Int.ediv_nonneg h.1 (by omega)
  have h2 : x / y ≤ x := Int.ediv_le_self y h.1
  exact wu32 ⟨h1, by omega⟩
theorem tm {x y : Int} (h : 0 ≤ x) : x.tmod y = x % y := Int.tmod_eq_emod_of_nonneg h

/-- Bitwise operations, as the model has them. -/
def bAnd (k : IntKind) (x y : Int) : Int := k.wrap ((BitVec.ofInt k.bits x &&& BitVec.ofInt k.bits y).toNat : Int)
def bOr (k : IntKind) (x y : Int) : Int := k.wrap ((BitVec.ofInt k.bits x ||| BitVec.ofInt k.bits y).toNat : Int)
def bXor (k : IntKind) (x y : Int) : Int := k.wrap ((BitVec.ofInt k.bits x ^^^ BitVec.ofInt k.bits y).toNat : Int)

section
variable {P : Program} {L : Env} {S : List As} {dst : Option Tmp} {ty : TypeId} {pos : String} {af : Array Edge} {gd : Option (Nat × Bool)}

theorem p_move {x : Operand} {v : Value} (h : ev L x = some v) : Pure1 P L S ⟨dst, .move x, ty, pos, af, gd⟩ v := by
  intro ρ w hA _; simp [execOp, hA x v h]
theorem p_assign {x : Operand} {v : Value} (h : ev L x = some v) : Pure1 P L S ⟨dst, .assign x, ty, pos, af, gd⟩ v := by
  intro ρ w hA _; simp [execOp, hA x v h]
theorem p_pickT {c a b : Operand} {v : Value} (hc : ev L c = some (.bool true)) (h : ev L a = some v) : Pure1 P L S ⟨dst, .pick c a b, ty, pos, af, gd⟩ v := by
  intro ρ w hA _; simp [execOp, hA c _ hc, hA a v h, asBool]
theorem p_pickF {c a b : Operand} {v : Value} (hc : ev L c = some (.bool false)) (h : ev L b = some v) : Pure1 P L S ⟨dst, .pick c a b, ty, pos, af, gd⟩ v := by
  intro ρ w hA _; simp [execOp, hA c _ hc, hA b v h, asBool]
theorem p_not {x : Operand} {b : Bool} {t : TypeId} (h : ev L x = some (.bool b)) : Pure1 P L S ⟨dst, .unOp .not t x, ty, pos, af, gd⟩ (.bool (!b)) := by
  intro ρ w hA _; simp [execOp, hA x _ h, Op.unary]
theorem p_extract {x : Operand} {i : Nat} {vs : Array Value} {v : Value} (h : ev L x = some (.tuple vs)) (hv : vs[i]? = some v) : Pure1 P L S ⟨dst, .extract x i, ty, pos, af, gd⟩ v := by
  intro ρ w hA _; simp [execOp, hA x _ h, Instr.extract, hv]
theorem p_nilCheck {x : Operand} {a : Addr} (h : ev L x = some (.pointer (some a))) : Pure1 P L S ⟨dst, .nilCheck x, ty, pos, af, gd⟩ (.pointer (some a)) := by
  intro ρ w hA _; simp [execOp, hA x _ h]
theorem p_nilCheckI {x : Operand} {t : TypeId} {v : Value} (h : ev L x = some (.iface t v)) : Pure1 P L S ⟨dst, .nilCheck x, ty, pos, af, gd⟩ (.iface t v) := by
  intro ρ w hA _; simp [execOp, hA x _ h]

section ints
variable {x y : Operand} {xt yt : TypeId} {k : IntKind} {a b c : Int}
theorem p_add (hx : ev L x = some (.int k a)) (hy : ev L y = some (.int k b)) (hc : k.wrap (a + b) = c) : Pure1 P L S ⟨dst, .binOp .add xt x y yt, ty, pos, af, gd⟩ (.int k c) := by
  intro ρ w hA _; simp [execOp, hA x _ hx, hA y _ hy, eqGuard, binOp, Op.intArith, hc]
theorem p_sub (hx : ev L x = some (.int k a)) (hy : ev L y = some (.int k b)) (hc : k.wrap (a - b) = c) : Pure1 P L S ⟨dst, .binOp .sub xt x y yt, ty, pos, af, gd⟩ (.int k c) := by
  intro ρ w hA _; simp [execOp, hA x _ hx, hA y _ hy, eqGuard, binOp, Op.intArith, hc]
theorem p_mul (hx : ev L x = some (.int k a)) (hy : ev L y = some (.int k b)) (hc : k.wrap (a * b) = c) : Pure1 P L S ⟨dst, .binOp .mul xt x y yt, ty, pos, af, gd⟩ (.int k c) := by
  intro ρ w hA _; simp [execOp, hA x _ hx, hA y _ hy, eqGuard, binOp, Op.intArith, hc]
theorem p_quo (hx : ev L x = some (.int k a)) (hy : ev L y = some (.int k b)) (h0 : b ≠ 0) (hc : k.wrap (a.tdiv b) = c) : Pure1 P L S ⟨dst, .binOp .quo xt x y yt, ty, pos, af, gd⟩ (.int k c) := by
  intro ρ w hA _; simp [execOp, hA x _ hx, hA y _ hy, eqGuard, binOp, Op.intDiv, h0, hc]
theorem p_rem (hx : ev L x = some (.int k a)) (hy : ev L y = some (.int k b)) (h0 : b ≠ 0) (hc : a.tmod b = c) : Pure1 P L S ⟨dst, .binOp .rem xt x y yt, ty, pos, af, gd⟩ (.int k c) := by
  intro ρ w hA _; simp [execOp, hA x _ hx, hA y _ hy, eqGuard, binOp, Op.intDiv, h0, hc]
theorem p_and (hx : ev L x = some (.int k a)) (hy : ev L y = some (.int k b)) (hc : bAnd k a b = c) : Pure1 P L S ⟨dst, .binOp .and xt x y yt, ty, pos, af, gd⟩ (.int k c) := by
  intro ρ w hA _; subst hc; simp [execOp, hA x _ hx, hA y _ hy, eqGuard, binOp, Op.intBits, bAnd]
theorem p_or (hx : ev L x = some (.int k a)) (hy : ev L y = some (.int k b)) (hc : bOr k a b = c) : Pure1 P L S ⟨dst, .binOp .or xt x y yt, ty, pos, af, gd⟩ (.int k c) := by
  intro ρ w hA _; subst hc; simp [execOp, hA x _ hx, hA y _ hy, eqGuard, binOp, Op.intBits, bOr]
theorem p_xor (hx : ev L x = some (.int k a)) (hy : ev L y = some (.int k b)) (hc : bXor k a b = c) : Pure1 P L S ⟨dst, .binOp .xor xt x y yt, ty, pos, af, gd⟩ (.int k c) := by
  intro ρ w hA _; subst hc; simp [execOp, hA x _ hx, hA y _ hy, eqGuard, binOp, Op.intBits, bXor]
theorem p_shl {yk : IntKind} (hx : ev L x = some (.int k a)) (hy : ev L y = some (.int yk b)) (h0 : 0 ≤ b) (hc : k.wrap (a * 2 ^ min b.toNat k.bits) = c) : Pure1 P L S ⟨dst, .binOp .shl xt x y yt, ty, pos, af, gd⟩ (.int k c) := by
  intro ρ w hA _; subst hc
  have : ¬ b < 0 := by omega
  simp [execOp, hA x _ hx, hA y _ hy, eqGuard, binOp, Op.shift, this]
theorem p_shr {yk : IntKind} (hx : ev L x = some (.int k a)) (hy : ev L y = some (.int yk b)) (h0 : 0 ≤ b) (hc : a.fdiv (2 ^ min b.toNat k.bits) = c) : Pure1 P L S ⟨dst, .binOp .shr xt x y yt, ty, pos, af, gd⟩ (.int k c) := by
  intro ρ w hA _; subst hc
  have : ¬ b < 0 := by omega
  simp [execOp, hA x _ hx, hA y _ hy, eqGuard, binOp, Op.shift, this]
theorem p_eq (hx : ev L x = some (.int k a)) (hy : ev L y = some (.int k b)) : Pure1 P L S ⟨dst, .binOp .eql xt x y yt, ty, pos, af, gd⟩ (.bool (decide (a = b))) := by
  intro ρ w hA _; simp [execOp, hA x _ hx, hA y _ hy, eqGuard, binOp, Op.intCmp]; rfl
theorem p_ne (hx : ev L x = some (.int k a)) (hy : ev L y = some (.int k b)) : Pure1 P L S ⟨dst, .binOp .neq xt x y yt, ty, pos, af, gd⟩ (.bool (decide (a ≠ b))) := by
  intro ρ w hA _; simp [execOp, hA x _ hx, hA y _ hy, eqGuard, binOp, Op.intCmp]; rfl
theorem p_lt (hx : ev L x = some (.int k a)) (hy : ev L y = some (.int k b)) : Pure1 P L S ⟨dst, .binOp .lss xt x y yt, ty, pos, af, gd⟩ (.bool (decide (a < b))) := by
  intro ρ w hA _; simp [execOp, hA x _ hx, hA y _ hy, eqGuard, binOp, Op.intCmp]
theorem p_le (hx : ev L x = some (.int k a)) (hy : ev L y = some (.int k b)) : Pure1 P L S ⟨dst, .binOp .leq xt x y yt, ty, pos, af, gd⟩ (.bool (decide (a ≤ b))) := by
  intro ρ w hA _; simp [execOp, hA x _ hx, hA y _ hy, eqGuard, binOp, Op.intCmp]
theorem p_gt (hx : ev L x = some (.int k a)) (hy : ev L y = some (.int k b)) : Pure1 P L S ⟨dst, .binOp .gtr xt x y yt, ty, pos, af, gd⟩ (.bool (decide (a > b))) := by
  intro ρ w hA _; simp [execOp, hA x _ hx, hA y _ hy, eqGuard, binOp, Op.intCmp]
theorem p_ge (hx : ev L x = some (.int k a)) (hy : ev L y = some (.int k b)) : Pure1 P L S ⟨dst, .binOp .geq xt x y yt, ty, pos, af, gd⟩ (.bool (decide (a ≥ b))) := by
  intro ρ w hA _; simp [execOp, hA x _ hx, hA y _ hy, eqGuard, binOp, Op.intCmp]
theorem p_conv {s d : TypeId} {j : IntKind} {t : TypeDesc} (ht : P.underlying s = some t) (hd : P.underlying d = some (.int j)) (hx : ev L x = some (.int k a)) (hc : j.wrap a = c) : Pure1 P L S ⟨dst, .convert s d x, ty, pos, af, gd⟩ (.int j c) := by
  intro ρ w hA _
  simp [execOp, hA x _ hx, convert, run_underlying ht, run_underlying hd, Conv.intToInt, hc]
end ints

/-- A test whose outcome is known. -/
theorem pb_true {o : Oper} {p : Prop} [Decidable p] (h : Pure1 P L S o (.bool (decide p))) (hp : p) : Pure1 P L S o (.bool true) := by simpa [hp] using h
theorem pb_false {o : Oper} {p : Prop} [Decidable p] (h : Pure1 P L S o (.bool (decide p))) (hp : ¬ p) : Pure1 P L S o (.bool false) := by simpa [hp] using h
theorem pb_iff {o : Oper} {p q : Prop} [Decidable p] [Decidable q] (h : Pure1 P L S o (.bool (decide p))) (hp : p ↔ q) : Pure1 P L S o (.bool (decide q)) := by
  rw [show decide q = decide p from decide_eq_decide.2 hp.symm]; exact h

/-- 'err != nil' where err is nil. -/
theorem run_neq_nils {w : World} {t : TypeId} {ms : Array (String × TypeId)} (ht : P.underlying t = some (.interface ms)) : (binOp .neq t .nilIface .nilIface).run P w = .ok (.bool false) w := by
  have h' : P.underlying t = some (.interface (P.methodsAt t)) := by simp [Program.methodsAt, ht]
  exact run_neq_nil_nil w t h'
theorem p_errnil {x : Operand} {xt yt : TypeId} {ms : Array (String × TypeId)} (ht : P.underlying xt = some (.interface ms)) (hx : ev L x = some .nilIface) :
    Pure1 P L S ⟨dst, .binOp .neq xt x (.const .nilIface) yt, ty, pos, af, gd⟩ (.bool false) := by
  intro ρ w hA _
  have h2 : ρ (.const .nilIface) = .nilIface := hA _ _ rfl
  have h3 : (eqGuard .neq xt x (.const .nilIface) .nilIface .nilIface).run P w = .ok () w := by simp [eqGuard]
  simp only [execOp, hA x _ hx, h2]
  simp [h3, run_neq_nils ht]

theorem p_fieldAddr {s : TypeId} {x : Operand} {f : Nat} {a b : Addr} (hf : ∀ w, (Instr.fieldAt s (.pointer (some a)) f).run P w = .ok (.pointer (some b)) w) (hx : ev L x = some (.pointer (some a))) :
    Pure1 P L S ⟨dst, .fieldAddr s x f, ty, pos, af, gd⟩ (.pointer (some b)) := by
  intro ρ w hA _; simp [execOp, hA x _ hx, hf]

theorem p_len {x : Operand} {t e : TypeId} {A : Option Addr} {n c : Nat} (ht : P.underlying t = some (.slice e)) (hx : ev L x = some (.slice A n c)) :
    Pure1 P L S ⟨dst, .call { callee := .builtin .len, args := #[x], argTypes := #[t] }, ty, pos, af, gd⟩ (.int .i64 (n : Int)) := by
  intro ρ w hA _
  simp [execOp, resolve, invoke, builtin, hA x _ hx, Builtin.len_, underlying, ht, program, Sem.run, goInt]

theorem p_min {x y : Operand} {t u : TypeId} {k : IntKind} {a b c : Int} (hx : ev L x = some (.int k a)) (hy : ev L y = some (.int k b)) (hc : (if b < a then b else a) = c) :
    Pure1 P L S ⟨dst, .call { callee := .builtin .min, args := #[x, y], argTypes := #[t, u] }, ty, pos, af, gd⟩ (.int k c) := by
  intro ρ w hA _
  simp [execOp, resolve, invoke, builtin, hA x _ hx, hA y _ hy, Builtin.min_, Builtin.min2, hc]
theorem p_max {x y : Operand} {t u : TypeId} {k : IntKind} {a b c : Int} (hx : ev L x = some (.int k a)) (hy : ev L y = some (.int k b)) (hc : (if b > a then b else a) = c) :
    Pure1 P L S ⟨dst, .call { callee := .builtin .max, args := #[x, y], argTypes := #[t, u] }, ty, pos, af, gd⟩ (.int k c) := by
  intro ρ w hA _
  simp [execOp, resolve, invoke, builtin, hA x _ hx, hA y _ hy, Builtin.max_, Builtin.max2]
  simpa using hc

theorem p_makeIface {x : Operand} {t : TypeId} {v : Value} {d : TypeDesc} (ht : P.underlying t = some d) (hd : (match d with | .interface _ => false | _ => true) = true) (hx : ev L x = some v) :
    Pure1 P L S ⟨dst, .makeInterface t x, ty, pos, af, gd⟩ (.iface t v) := by
  intro ρ w hA _
  cases d <;> simp_all [execOp, hA x _ hx, Instr.makeInterface, underlying, program, Sem.run]
end

end V
end Go.Proofs.YtaflcjoagfnhfaaGreatDoor
