/- Bytes as a string; operations that stand under a guard. -/
import Derived.Test.YtkjapcmnopnblaaSm
import Derived.Laws.BytesArg
namespace Go.Proofs.Ytkjapcmnopnblaa
open Go.RowKit
set_option linter.unusedVariables false

/-- Bytes as a string's value. -/
def strB (bs : List UInt8) : Value := .string ⟨bs.toArray⟩
theorem run_conv {w : World} {v : Value} {bs : List UInt8} (h : Reads w v bs) : (convert 24 9 v).run Try.prog w = .ok (strB bs) w := by
  obtain ⟨ad, c, rfl, hc, hm, hcl⟩ := h
  rcases ad with _ | ad
  · have h0 : bs.length = 0 := by
      rcases Nat.eq_zero_or_pos bs.length with h | h
      · exact h
      · obtain ⟨_, _, e, _⟩ := hcl h
        cases e
    obtain rfl : bs = [] := List.eq_nil_of_length_eq_zero h0
    exact run_convert_bytes_nil w 24 5 Try.underlying24 Try.underlying5 _ _ 9 Try.underlying9
  · by_cases h0 : bs.length = 0
    · obtain rfl : bs = [] := List.eq_nil_of_length_eq_zero h0
      rw [run_convert_bytes_string w 24 9 5 _ _ c Try.underlying24 Try.underlying5 Try.underlying9]
      rfl
    · obtain ⟨b, o, e, hcell⟩ := hcl (by omega)
      injection e with e
      subst e
      have h := run_convert_bytes_arg (P := Try.prog) w 24 5 Try.underlying24 Try.underlying5 b o bs.length c (bs.map fun x => (x.toNat : Int)) (by simp) (fun i hi => by
        rw [hcell i hi]
        simp [List.getD_eq_getElem?_getD, List.getElem?_eq_getElem hi]) 9 Try.underlying9
      rw [h]
      unfold strB strOfNums
      congr 3
      refine congrArg List.toArray ?_
      rw [List.map_map]
      refine (List.map_congr_left fun x _ => ?_).trans (List.map_id bs)
      show UInt8.ofNat ((x.toNat : Int).toNat) = x
      rw [Int.toNat_natCast, UInt8.ofNat_toNat]

section
variable {a : Act} {d : Option Tmp} {x y z : Operand} {ty : TypeId} {pos : String} {af : Array Edge} {gd : Option (Nat × Bool)} {v : Value}
theorem g_move (hx : a.eval x = v) (w : World) : (execOp a.eval { dst := d, op := .move x, type := ty, pos := pos, after := af, guard := gd }).run Try.prog w = .ok (.value v) w := by
  subst hx; rfl
theorem g_assign (hx : a.eval x = v) (w : World) : (execOp a.eval { dst := d, op := .assign x, type := ty, pos := pos, after := af, guard := gd }).run Try.prog w = .ok (.value v) w := by
  subst hx; rfl
theorem g_conv {bs : List UInt8} {w : World} (h : Reads w (a.eval x) bs) : (execOp a.eval { dst := d, op := .convert 24 9 x, type := ty, pos := pos, after := af, guard := gd }).run Try.prog w = .ok (.value (strB bs)) w := by
  simp only [execOp, Sem.run_bind, run_conv h, Result.andThen_ok, Sem.run_pure]
theorem g_eqs {b c : List UInt8} (hx : a.eval x = strB b) (hy : a.eval y = strB c) (w : World) : (execOp a.eval { dst := d, op := .binOp .eql 9 x y 9, type := ty, pos := pos, after := af, guard := gd }).run Try.prog w = .ok (.value (.bool (decide (b = c)))) w := by
  simp only [execOp, hx, hy, strB]
  simp [go_sem]
  by_cases h : b = c <;> simp [h]
theorem g_pick {b : Bool} (hx : a.eval x = .bool b) (w : World) : (execOp a.eval { dst := d, op := .pick x y z, type := ty, pos := pos, after := af, guard := gd }).run Try.prog w = .ok (.value (if b then a.eval y else a.eval z)) w := by
  simp only [execOp, hx]
  cases b <;> rfl
theorem g_len24 {ad : Option Addr} {n c : Nat} (hx : a.eval x = .slice ad n c) (w : World) : (execOp a.eval { dst := d, op := .call { callee := .builtin .len, args := #[x], argTypes := #[24] }, type := ty, pos := pos, after := af, guard := gd }).run Try.prog w = .ok (.value (.int .i64 (n : Int))) w := by
  simp only [Go.BigFrame.execOp_builtin, List.map_toArray, List.map_cons, List.map_nil, hx]
  simp [go_sem]
theorem g_gtr {n : Int} (k : Int) (hx : a.eval x = .int .i64 n) (w : World) : (execOp a.eval { dst := d, op := .binOp .gtr 3 x (.const (.int .i64 k)) 3, type := ty, pos := pos, after := af, guard := gd }).run Try.prog w = .ok (.value (.bool (decide (k < n)))) w := by
  simp only [execOp, hx, eval_const]
  simp [go_sem]
theorem want_some {l : List Oper} {o : Oper} {j : Nat} {b c : Bool} {y : Nat → Option Bool} (hg : o.guard = some (j, b)) (hy : y j = some c) : Region.wanted o y = (c == b) := by
  simp [Region.wanted, hg, hy]
end
end Go.Proofs.Ytkjapcmnopnblaa
