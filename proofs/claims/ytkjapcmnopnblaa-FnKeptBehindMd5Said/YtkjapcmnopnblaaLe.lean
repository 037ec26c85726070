/- Contracts of the small functions: the turn to the left, words out of bytes. -/
import Derived.Test.YtkjapcmnopnblaaRows
import Derived.Test.YtkjapcmnopnblaaRd
import Derived.WalkKit
import Derived.WalkSpells
import Derived.WalkLawsBesides
import Derived.Deep.QuietTactic
import Derived.BigQuiet
namespace Go.Proofs.Ytkjapcmnopnblaa
open Go.RowKit

theorem run_shl_w (x : Md.W) (k : Nat) (h2 : k ≤ 31) (w : World) : (Op.shift .shl .u32 (x.toNat : Int) .u64 (k : Int)).run Try.prog w = .ok (U (x <<< k)) w := by
  have h : ¬ ((k : Int) < 0) := by omega
  simp only [Op.shift, h, if_false, Sem.run_pure, Int.toNat_natCast]
  congr 2
  have hm : min k IntKind.u32.bits = k := by simp [IntKind.bits]; omega
  rw [hm, show (x.toNat : Int) * 2 ^ k = ((x.toNat * 2 ^ k : Nat) : Int) by push_cast; rfl, wrap_u32_nat, BitVec.toNat_shiftLeft, Nat.shiftLeft_eq]
theorem run_shr_w (x : Md.W) (k : Nat) (h2 : k ≤ 31) (m : Int) (hm0 : m = (k : Int)) (w : World) : (Op.shift .shr .u32 (x.toNat : Int) .u64 m).run Try.prog w = .ok (U (x >>> k)) w := by
  subst hm0
  have h : ¬ ((k : Int) < 0) := by omega
  simp only [Op.shift, h, if_false, Sem.run_pure, Int.toNat_natCast]
  congr 2
  have hm : min k IntKind.u32.bits = k := by simp [IntKind.bits]; omega
  rw [hm, BitVec.toNat_ushiftRight, Nat.shiftRight_eq_div_pow, Int.fdiv_eq_ediv_of_nonneg _ (by exact_mod_cast Nat.zero_le _)]
  push_cast
  rfl
theorem bits_or_w (x y : Md.W) : bits .or .u32 (x.toNat : Int) (y.toNat : Int) = ((x ||| y).toNat : Int) := by
  show IntKind.u32.wrap ((BitVec.ofInt 32 (x.toNat : Int) ||| BitVec.ofInt 32 (y.toNat : Int)).toNat : Int) = _
  rw [ofInt_toNat32, ofInt_toNat32, wrap_u32_toNat]
theorem bits_and31 (k : Nat) (h : k ≤ 31) : bits .and .u64 (k : Int) 31 = (k : Int) := by
  have : k < 32 := by omega
  show IntKind.u64.wrap ((BitVec.ofInt 64 (k : Int) &&& BitVec.ofInt 64 31).toNat : Int) = _
  have h2 : ∀ j : Fin 32, IntKind.u64.wrap ((BitVec.ofInt 64 ((j.val : Nat) : Int) &&& BitVec.ofInt 64 31).toNat : Int) = ((j.val : Nat) : Int) := by decide
  exact h2 ⟨k, this⟩
theorem ret_int {k : IntKind} {a b : Int} (h : a = b) : Ending.returned (.int k a) = .returned (.int k b) := by rw [h]
theorem w8_toNat (b : UInt8) : (Md.w8 b).toNat = b.toNat := by
  have := b.toNat_lt
  unfold Md.w8; rw [BitVec.toNat_ofNat, Nat.mod_eq_of_lt (by omega)]
theorem w8_shl (b : UInt8) (k : Nat) (h : k ≤ 24) : (Md.w8 b <<< k).toNat = b.toNat * 2 ^ k := by
  have := b.toNat_lt
  rw [BitVec.toNat_shiftLeft, Nat.shiftLeft_eq, w8_toNat]
  apply Nat.mod_eq_of_lt
  calc b.toNat * 2 ^ k < 256 * 2 ^ k := by apply Nat.mul_lt_mul_of_pos_right this; exact Nat.two_pow_pos k
    _ ≤ 256 * 2 ^ 24 := by apply Nat.mul_le_mul_left; exact Nat.pow_le_pow_right (by omega) h
    _ = 2 ^ 32 := by decide

set_option maxHeartbeats 400000 in
theorem rot_any (x : Md.W) (k : Nat) (w : World) (h1 : 1 ≤ k) (h2 : k ≤ 31) :
    Calls Try.prog 58 #[U x, .int .i64 (k : Int)] w fun e w' => e = .returned (U (Md.rotl x k)) ∧ w = w' := by
  have hx : (x.toNat : Int) < 4294967296 := by have := x.isLt; omega
  have hb := bits_and31 k h2
  have s1 := run_shl_w x k h2
  have s2 := run_shr_w x (32 - k) (by omega) (32 - (k : Int)) (by omega)
  go_enter Try.func58, Try.ntmps58
  go_wp2
  go_ret
  refine ⟨ret_int ?_, rfl⟩
  have e1 : (x.toNat : Int) * 2 ^ k % (4294967296 : Int) = ((x <<< k).toNat : Int) := by
    rw [BitVec.toNat_shiftLeft, Nat.shiftLeft_eq, Int.natCast_emod, Int.natCast_mul, Int.natCast_pow]; rfl
  have e2 : (x.toNat : Int) / 2 ^ (32 - k) = ((x >>> (32 - k)).toNat : Int) := by
    rw [BitVec.toNat_ushiftRight, Nat.shiftRight_eq_div_pow, Int.natCast_ediv, Int.natCast_pow]; rfl
  show bits .or .u32 ((x.toNat : Int) * 2 ^ k % (4294967296 : Int)) ((x.toNat : Int) / 2 ^ (32 - k)) = _
  rw [e1, e2]
  exact bits_or_w _ _

set_option maxHeartbeats 400000 in
theorem le32_any (b o n c : Nat) (b0 b1 b2 b3 : UInt8) (w : World) (hn : 4 ≤ n)
    (c0 : w.cell? ⟨b, o, none⟩ = some (B b0)) (c1 : w.cell? ⟨b, o + 1, none⟩ = some (B b1)) (c2 : w.cell? ⟨b, o + 2, none⟩ = some (B b2)) (c3 : w.cell? ⟨b, o + 3, none⟩ = some (B b3)) :
    Calls Try.prog 57 #[.slice (some ⟨b, o, none⟩) n c] w fun e w' => e = .returned (U (Md.le32 b0 b1 b2 b3)) ∧ ∃ k, w' = w.drewN k := by
  have q0 : 0 < n := by omega
  have q1 : (1 : Int) < (n : Int) := by omega
  have q2 : (2 : Int) < (n : Int) := by omega
  have q3 : (3 : Int) < (n : Int) := by omega
  have h0 : b0.toNat < 256 := b0.toNat_lt
  have h1 : b1.toNat < 256 := b1.toNat_lt
  have h2 : b2.toNat < 256 := b2.toNat_lt
  have h3 : b3.toNat < 256 := b3.toNat_lt
  go_enter Try.func57, Try.ntmps57
  go_wp2
  go_quiet (fail)
  go_wp2
  go_ret
  refine ⟨ret_int ?_, nq, rfl⟩
  have e0 : (b0.toNat : Int) = ((Md.w8 b0).toNat : Int) := by rw [w8_toNat]
  have e1 : (b1.toNat : Int) * (256 : Int) = ((Md.w8 b1 <<< 8).toNat : Int) := by have := w8_shl b1 8 (by omega); omega
  have e2 : (b2.toNat : Int) * (65536 : Int) = ((Md.w8 b2 <<< 16).toNat : Int) := by have := w8_shl b2 16 (by omega); omega
  have e3 : (b3.toNat : Int) * (16777216 : Int) = ((Md.w8 b3 <<< 24).toNat : Int) := by have := w8_shl b3 24 (by omega); omega
  show bits BinOp.or IntKind.u32 (bits BinOp.or IntKind.u32 (bits BinOp.or IntKind.u32 (b0.toNat : Int) ((b1.toNat : Int) * 256)) ((b2.toNat : Int) * 65536)) ((b3.toNat : Int) * 16777216) = ((Md.le32 b0 b1 b2 b3).toNat : Int)
  rw [e0, e1, e2, e3, bits_or_w, bits_or_w, bits_or_w]
  rfl
end Go.Proofs.Ytkjapcmnopnblaa
