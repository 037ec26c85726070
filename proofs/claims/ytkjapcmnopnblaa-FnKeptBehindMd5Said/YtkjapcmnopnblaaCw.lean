/- More operations that may stand under a guard. -/
import Derived.Test.YtkjapcmnopnblaaFd
namespace Go.Proofs.Ytkjapcmnopnblaa
open Go.RowKit
set_option linter.unusedVariables false

section
variable {a : Act} {d : Option Tmp} {x y z : Operand} {ty : TypeId} {pos : String} {af : Array Edge} {gd : Option (Nat × Bool)} {v : Value}
theorem g_not {b : Bool} (hx : a.eval x = .bool b) (w : World) : (execOp a.eval { dst := d, op := .unOp .not 4 x, type := ty, pos := pos, after := af, guard := gd }).run Try.prog w = .ok (.value (.bool (!b))) w := by
  simp only [execOp, hx]
  cases b <;> rfl
theorem g_min {n : Nat} (k : Nat) (hx : a.eval x = .int .i64 (n : Int)) (w : World) : (execOp a.eval { dst := d, op := .call { callee := .builtin .min, args := #[x, .const (.int .i64 (k : Int))], argTypes := #[3, 3] }, type := 3, pos := pos, after := af, guard := gd }).run Try.prog w = .ok (.value (.int .i64 ((min n k : Nat) : Int))) w := by
  simp only [Go.BigFrame.execOp_builtin, List.map_toArray, List.map_cons, List.map_nil, hx, eval_const]
  simp [go_sem]
  omega
theorem g_eq4 {n : Int} (k : Int) (hx : a.eval x = .int .i64 n) (w : World) : (execOp a.eval { dst := d, op := .binOp .eql 3 x (.const (.int .i64 k)) 3, type := ty, pos := pos, after := af, guard := gd }).run Try.prog w = .ok (.value (.bool (decide (n = k)))) w := by
  simp only [execOp, hx, eval_const]
  simp [go_sem]
  by_cases h : n = k <;> simp [h]
theorem g_len31 {ad : Option Addr} {n c : Nat} (hx : a.eval x = .slice ad n c) (w : World) : (execOp a.eval { dst := d, op := .call { callee := .builtin .len, args := #[x], argTypes := #[31] }, type := ty, pos := pos, after := af, guard := gd }).run Try.prog w = .ok (.value (.int .i64 (n : Int))) w := by
  simp only [Go.BigFrame.execOp_builtin, List.map_toArray, List.map_cons, List.map_nil, hx]
  simp [go_sem]
/-- The length of what reads as bytes. -/
theorem g_lenR {w : World} {bs : List UInt8} (h : Reads w (a.eval x) bs) : (execOp a.eval { dst := d, op := .call { callee := .builtin .len, args := #[x], argTypes := #[24] }, type := ty, pos := pos, after := af, guard := gd }).run Try.prog w = .ok (.value (.int .i64 (bs.length : Int))) w := by
  obtain ⟨ad, c, e, _⟩ := h
  exact g_len24 e w
theorem g_lenW {w : World} {ws : List Md.W} (h : Words w (a.eval x) ws) : (execOp a.eval { dst := d, op := .call { callee := .builtin .len, args := #[x], argTypes := #[31] }, type := ty, pos := pos, after := af, guard := gd }).run Try.prog w = .ok (.value (.int .i64 (ws.length : Int))) w := by
  obtain ⟨ad, c, e, _⟩ := h
  exact g_len31 e w
theorem run_sl24h {w : World} {pv : Value} {bs : List UInt8} (h : Reads w pv bs) (l : Nat) (hl : l ≤ bs.length) : ∃ v, (Instr.sliceAt 24 pv none (some (.int .i64 (l : Int))) none).run Try.prog w = .ok v w ∧ Reads w v (bs.take l) := by
  obtain ⟨ad, c, rfl, h1, h2, _⟩ := id h
  have q1 : (l : Int) ≤ (c : Int) := by omega
  refine ⟨.slice ad l c, ?_, h.upto l hl⟩
  simp [go_sem, q1]
theorem g_upto {w : World} {bs : List UInt8} (l : Nat) (hx : Reads w (a.eval x) bs) (hy : a.eval y = .int .i64 (l : Int)) (hl : l ≤ bs.length) :
    ∃ v, (execOp a.eval { dst := d, op := .slice 24 x none (some y) none, type := ty, pos := pos, after := af, guard := gd }).run Try.prog w = .ok (.value v) w ∧ Reads w v (bs.take l) := by
  obtain ⟨v, h1, h2⟩ := run_sl24h hx l hl
  refine ⟨v, ?_, h2⟩
  simp only [execOp, hy, Option.map_some, Option.map_none, Sem.run_bind, h1, Result.andThen_ok, Sem.run_pure]
theorem run_build22 (f : Operand → Value) {ad : Option Addr} {n c : Nat} (h0 : f x = .slice ad n c) (w : World) :
    (execOp f { dst := d, op := .buildSlice 22 1 #[(0, x)], type := ty, pos := pos, after := af, guard := gd }).run Try.prog w = .ok (.value (.slice (some ⟨w.heap.size, 0, none⟩) 1 1)) (w.alloc (.cells #[.slice ad n c] 24)) := by
  simp [execOp, go_sem, h0]
theorem g_build22 {w : World} {bs : List UInt8} (h : Reads w (a.eval x) bs) :
    ∃ v w', (execOp a.eval { dst := d, op := .buildSlice 22 1 #[(0, x)], type := ty, pos := pos, after := af, guard := gd }).run Try.prog w = .ok (.value v) w' ∧ Pieces w' v [bs] ∧ RB w w' := by
  obtain ⟨ad, c, e, h1, h2, _⟩ := id h
  rw [e] at h
  have hb : RB w (w.alloc (.cells #[.slice ad bs.length c] 24)) := (Below.refl _ _).alloc (Nat.le_refl _) _
  refine ⟨_, _, run_build22 a.eval e w, ⟨some ⟨w.heap.size, 0, none⟩, 1, rfl, Nat.le_refl _, by unfold maxLen; omega, fun _ => ⟨w.heap.size, 0, rfl, fun j hj => ?_⟩⟩, hb⟩
  obtain rfl : j = 0 := by simp at hj; exact hj
  exact ⟨.slice ad bs.length c, by simp only [World.cell?, heap_alloc_at w _ _ rfl]; rfl, h.below hb⟩
end
theorem want_yes {o : Oper} {j : Nat} {b : Bool} {y : Nat → Option Bool} (hg : o.guard = some (j, b)) (hy : y j = some b) : Region.wanted o y = true := by
  simp [Region.wanted, hg, hy]
theorem want_no {o : Oper} {j : Nat} {b : Bool} {y : Nat → Option Bool} (hg : o.guard = some (j, b)) (hy : y j = some (!b)) : Region.wanted o y = false := by
  simp [Region.wanted, hg, hy]
theorem want_none {o : Oper} {j : Nat} {b : Bool} {y : Nat → Option Bool} (hg : o.guard = some (j, b)) (hy : y j = none) : Region.wanted o y = false := by
  simp [Region.wanted, hg, hy]
theorem yielded_undef {l : List Oper} {a : Act} {j d : Nat} (hj : writes l j d = true) (h : a.eval (.tmp d) = undef) : yielded l.toArray a.tmps j = none := by
  obtain ⟨oj, ho, hd⟩ := writes_iff.1 hj
  unfold yielded
  have ho' : l.toArray[j]? = some oj := by simpa using ho
  rw [ho']
  simp only [Option.bind_some, hd]
  simp only [Act.eval, Array.getD_eq_getD_getElem?] at h
  cases hq : a.tmps[d]? with
  | none => rfl
  | some v =>
    rw [hq] at h
    simp only [Option.getD_some] at h
    subst h
    rfl
end Go.Proofs.Ytkjapcmnopnblaa
