/- The reference's small functions: a turn to the left, the 64 numbers. -/
import Derived.Test.YtkjapcmnopnblaaBc
namespace Go.Proofs.Ytkjapcmnopnblaa
open Go.RowKit

theorem run_shl_i (x : Md.W) (k : Nat) (h2 : k ≤ 31) (w : World) : (Op.shift .shl .u32 (x.toNat : Int) .i64 (k : Int)).run Try.prog w = .ok (U (x <<< k)) w := run_shl_w x k h2 w
theorem run_shr_i (x : Md.W) (k : Nat) (h2 : k ≤ 31) (m : Int) (hm0 : m = (k : Int)) (w : World) : (Op.shift .shr .u32 (x.toNat : Int) .i64 m).run Try.prog w = .ok (U (x >>> k)) w := run_shr_w x k h2 m hm0 w

set_option maxHeartbeats 400000 in
theorem left32_any (x : Md.W) (k : Nat) (w : World) (h1 : 1 ≤ k) (h2 : k ≤ 31) :
    Calls Try.prog 41 #[U x, .int .i64 (k : Int)] w fun e w' => e = .returned (U (Md.rotl x k)) ∧ Dr w w' := by
  have hx : (x.toNat : Int) < 4294967296 := by have := x.isLt; omega
  have s1 := run_shl_i x k h2
  have s2 := run_shr_i x (32 - k) (by omega) (32 - (k : Int)) (by omega)
  go_enter Try.func41, Try.ntmps41
  go_wp2
  go_quiet (fail)
  go_wp2
  go_ret
  refine ⟨ret_int ?_, nq, rfl⟩
  have e1 : (x.toNat : Int) * 2 ^ k % (4294967296 : Int) = ((x <<< k).toNat : Int) := by
    rw [BitVec.toNat_shiftLeft, Nat.shiftLeft_eq, Int.natCast_emod, Int.natCast_mul, Int.natCast_pow]; rfl
  have e2 : (x.toNat : Int) / 2 ^ (32 - k) = ((x >>> (32 - k)).toNat : Int) := by
    rw [BitVec.toNat_ushiftRight, Nat.shiftRight_eq_div_pow, Int.natCast_ediv, Int.natCast_pow]; rfl
  show bits .or .u32 ((x.toNat : Int) * 2 ^ k % (4294967296 : Int)) ((x.toNat : Int) / 2 ^ (32 - k)) = _
  rw [e1, e2]
  exact bits_or_w _ _
end Go.Proofs.Ytkjapcmnopnblaa
