/- Steps over a frame that is not written out: what an operation does to the slots, one law a kind of operation. -/
import Derived.Tactics
import Derived.Calls
import Derived.BigCall
namespace Go.Proofs.Ytkjapcmnopnblaa
open Go

/-- A word of 32 bits as a value of the model. -/
abbrev U (x : BitVec 32) : Value := .int .u32 (x.toNat : Int)
/-- A byte as a value of the model. -/
abbrev B (x : UInt8) : Value := .int .u8 (x.toNat : Int)

section
variable {P : Program} {w : World}

theorem wrap_u32_nat (n : Nat) : IntKind.u32.wrap (n : Int) = ((n % 4294967296 : Nat) : Int) := by
  simp [IntKind.wrap, IntKind.signed, IntKind.bits]
theorem wrap_u32_toNat (x : BitVec 32) : IntKind.u32.wrap (x.toNat : Int) = (x.toNat : Int) := by
  rw [wrap_u32_nat, Nat.mod_eq_of_lt x.isLt]
theorem ofInt_toNat32 (x : BitVec 32) : BitVec.ofInt 32 (x.toNat : Int) = x := by simp

theorem run_and (t : TypeId) (x y : BitVec 32) : (binOp .and t (U x) (U y)).run P w = .ok (U (x &&& y)) w := by
  show Result.ok (Value.int .u32 (IntKind.u32.wrap ((BitVec.ofInt 32 (x.toNat : Int) &&& BitVec.ofInt 32 (y.toNat : Int)).toNat : Int))) w = _
  rw [ofInt_toNat32, ofInt_toNat32, wrap_u32_toNat]
theorem run_or (t : TypeId) (x y : BitVec 32) : (binOp .or t (U x) (U y)).run P w = .ok (U (x ||| y)) w := by
  show Result.ok (Value.int .u32 (IntKind.u32.wrap ((BitVec.ofInt 32 (x.toNat : Int) ||| BitVec.ofInt 32 (y.toNat : Int)).toNat : Int))) w = _
  rw [ofInt_toNat32, ofInt_toNat32, wrap_u32_toNat]
theorem run_xor (t : TypeId) (x y : BitVec 32) : (binOp .xor t (U x) (U y)).run P w = .ok (U (x ^^^ y)) w := by
  show Result.ok (Value.int .u32 (IntKind.u32.wrap ((BitVec.ofInt 32 (x.toNat : Int) ^^^ BitVec.ofInt 32 (y.toNat : Int)).toNat : Int))) w = _
  rw [ofInt_toNat32, ofInt_toNat32, wrap_u32_toNat]
theorem run_add (t : TypeId) (x y : BitVec 32) : (binOp .add t (U x) (U y)).run P w = .ok (U (x + y)) w := by
  show Result.ok (Value.int .u32 (IntKind.u32.wrap ((x.toNat : Int) + (y.toNat : Int)))) w = _
  rw [← Int.natCast_add, wrap_u32_nat]
  rfl
theorem run_not (x : BitVec 32) : (Op.unary .xor (U x)).run P w = .ok (U (~~~ x)) w := by
  show Result.ok (Value.int .u32 (IntKind.u32.wrap ((BitVec.ofInt 32 (IntKind.u32.max) ^^^ BitVec.ofInt 32 (x.toNat : Int)).toNat : Int))) w = _
  rw [ofInt_toNat32, wrap_u32_toNat]
  have h : BitVec.ofInt 32 (IntKind.u32.max) = BitVec.allOnes 32 := by decide
  rw [h, BitVec.allOnes_xor]

/-- The word operations. -/
inductive WOp where
  | and | or | xor | add
def WOp.go : WOp → BinOp
  | .and => .and | .or => .or | .xor => .xor | .add => .add
def WOp.fn : WOp → BitVec 32 → BitVec 32 → BitVec 32
  | .and => (· &&& ·) | .or => (· ||| ·) | .xor => (· ^^^ ·) | .add => (· + ·)
theorem run_wop (o : WOp) (t : TypeId) (x y : BitVec 32) : (binOp o.go t (U x) (U y)).run P w = .ok (U (o.fn x y)) w := by
  cases o
  · exact run_and t x y
  · exact run_or t x y
  · exact run_xor t x y
  · exact run_add t x y
theorem eqGuard_wop (o : WOp) (t : TypeId) (x y : Operand) (u v : Value) : eqGuard o.go t x y u v = pure () := by cases o <;> rfl

variable {ops : Array Oper} {Q : Exit → Act → World → Prop} {a : Act} {rest : List Oper}

/-! ### One operation at the head of a region's list -/
theorem s_move {d : Option Tmp} {x : Operand} {ty : TypeId} {pos : String} {af : Array Edge}
    (h : wpList P ops Q rest (a.put d (a.eval x)) w) : wpList P ops Q ({ dst := d, op := .move x, type := ty, pos := pos, after := af, guard := none } :: rest) a w :=
  wpList_plain rfl fun _ hK => hK _ _ h
theorem s_assign {d : Option Tmp} {x : Operand} {ty : TypeId} {pos : String} {af : Array Edge}
    (h : wpList P ops Q rest (a.put d (a.eval x)) w) : wpList P ops Q ({ dst := d, op := .assign x, type := ty, pos := pos, after := af, guard := none } :: rest) a w :=
  wpList_plain rfl fun _ hK => hK _ _ h
theorem s_mv {d : Option Tmp} {x : Operand} {ty : TypeId} {pos : String} {af : Array Edge} {v : Value} (hx : a.eval x = v)
    (h : wpList P ops Q rest (a.put d v) w) : wpList P ops Q ({ dst := d, op := .move x, type := ty, pos := pos, after := af, guard := none } :: rest) a w :=
  s_move (hx ▸ h)
theorem s_as {d : Option Tmp} {x : Operand} {ty : TypeId} {pos : String} {af : Array Edge} {v : Value} (hx : a.eval x = v)
    (h : wpList P ops Q rest (a.put d v) w) : wpList P ops Q ({ dst := d, op := .assign x, type := ty, pos := pos, after := af, guard := none } :: rest) a w :=
  s_assign (hx ▸ h)
/-- An operation whose run is known. -/
theorem s_run {o : Oper} {v : Value} {w' : World} (hg : o.guard = none) (hr : (execOp a.eval o).run P w = .ok (.value v) w')
    (h : wpList P ops Q rest (a.put o.dst v) w') : wpList P ops Q (o :: rest) a w :=
  wpList_plain hg fun _ hK => by unfold Oper.wp; rw [hr]; exact hK _ _ h
theorem s_bin (o : WOp) {d : Option Tmp} {x y : Operand} {t t' ty : TypeId} {pos : String} {af : Array Edge} {p q : BitVec 32}
    (hx : a.eval x = U p) (hy : a.eval y = U q)
    (h : wpList P ops Q rest (a.put d (U (o.fn p q))) w) : wpList P ops Q ({ dst := d, op := .binOp o.go t x y t', type := ty, pos := pos, after := af, guard := none } :: rest) a w := by
  refine s_run rfl ?_ h
  simp only [execOp, eqGuard_wop, Sem.run_bind, Sem.run_pure, Result.andThen_ok, hx, hy, run_wop]
theorem s_and {d : Option Tmp} {x y : Operand} {t t' ty : TypeId} {pos : String} {af : Array Edge} {p q : BitVec 32}
    (hx : a.eval x = U p) (hy : a.eval y = U q)
    (h : wpList P ops Q rest (a.put d (U (p &&& q))) w) : wpList P ops Q ({ dst := d, op := .binOp .and t x y t', type := ty, pos := pos, after := af, guard := none } :: rest) a w :=
  s_bin .and hx hy h
theorem s_or {d : Option Tmp} {x y : Operand} {t t' ty : TypeId} {pos : String} {af : Array Edge} {p q : BitVec 32}
    (hx : a.eval x = U p) (hy : a.eval y = U q)
    (h : wpList P ops Q rest (a.put d (U (p ||| q))) w) : wpList P ops Q ({ dst := d, op := .binOp .or t x y t', type := ty, pos := pos, after := af, guard := none } :: rest) a w :=
  s_bin .or hx hy h
theorem s_xor {d : Option Tmp} {x y : Operand} {t t' ty : TypeId} {pos : String} {af : Array Edge} {p q : BitVec 32}
    (hx : a.eval x = U p) (hy : a.eval y = U q)
    (h : wpList P ops Q rest (a.put d (U (p ^^^ q))) w) : wpList P ops Q ({ dst := d, op := .binOp .xor t x y t', type := ty, pos := pos, after := af, guard := none } :: rest) a w :=
  s_bin .xor hx hy h
theorem s_add {d : Option Tmp} {x y : Operand} {t t' ty : TypeId} {pos : String} {af : Array Edge} {p q : BitVec 32}
    (hx : a.eval x = U p) (hy : a.eval y = U q)
    (h : wpList P ops Q rest (a.put d (U (p + q))) w) : wpList P ops Q ({ dst := d, op := .binOp .add t x y t', type := ty, pos := pos, after := af, guard := none } :: rest) a w :=
  s_bin .add hx hy h
theorem s_not {d : Option Tmp} {x : Operand} {t ty : TypeId} {pos : String} {af : Array Edge} {p : BitVec 32}
    (hx : a.eval x = U p)
    (h : wpList P ops Q rest (a.put d (U (~~~ p))) w) : wpList P ops Q ({ dst := d, op := .unOp .xor t x, type := ty, pos := pos, after := af, guard := none } :: rest) a w := by
  refine s_run rfl ?_ h
  simp only [execOp, Sem.run_bind, Sem.run_pure, Result.andThen_ok, hx, run_not]
/-- A call of a function of the program by its contract. -/
theorem s_call {d : Option Tmp} {f : FuncId} {xs : Array Operand} {ats : Array TypeId} {ty : TypeId} {pos : String} {af : Array Edge} {fn : Func}
    (hf : P.funcs[f]? = some fn) (hb : fn.body.isNone = false) (hn : (fn.name == "runtime.NumGoroutine") = false) (args : Array Value) (hargs : xs.map a.eval = args)
    (h : Calls P f args w fun e w' => ∃ v, e = .returned v ∧ wpList P ops Q rest (a.put d v) w') :
    wpList P ops Q ({ dst := d, op := .call { callee := .value (.func f), args := xs, argTypes := ats }, type := ty, pos := pos, after := af, guard := none } :: rest) a w := by
  refine wpList_plain rfl fun K hK => ?_
  unfold Oper.wp
  have hr : (execOp a.eval { dst := d, op := .call { callee := .value (.func f), args := xs, argTypes := ats }, type := ty, pos := pos, after := af, guard := none }).run P w = .ok (.enter f (xs.map a.eval)) w := by
    rw [execOp_call_go]
    simp only [callFunc, program, Sem.run_bind, Sem.run, Result.andThen_ok, hf, hn, hb]
    simp
  rw [hr, hargs]
  show Calls P f args w _
  refine h.mono ?_
  rintro e w' ⟨v, rfl, hv⟩
  exact hK _ _ hv

/-! ### Slots -/
theorem size_put (a : Act) (d : Nat) (v : Value) : (a.put (some d) v).tmps.size = a.tmps.size := by simp [Act.put]
theorem defers_put (a : Act) (d : Nat) (v : Value) : (a.put (some d) v).defers = a.defers := rfl
theorem eval_put_same (a : Act) (d : Nat) (v : Value) (h : d < a.tmps.size) : (a.put (some d) v).eval (.tmp d) = v := by
  simp [Act.put, Act.eval, h]
theorem eval_put_other (a : Act) (d t : Nat) (v : Value) (h : d ≠ t) : (a.put (some d) v).eval (.tmp t) = a.eval (.tmp t) := by
  simp [Act.put, Act.eval, h]
end
end Go.Proofs.Ytkjapcmnopnblaa
