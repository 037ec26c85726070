/- A digest kept as bytes: AppendBinary, MarshalBinary. -/
import Derived.Test.YtkjapcmnopnblaaAz
import Derived.Test.YtkjapcmnopnblaaPk
namespace Go.Proofs.Ytkjapcmnopnblaa
open Go.RowKit
set_option linter.unusedVariables false

section
variable {w : World} {ops : Array Oper} {Q : Exit → Act → World → Prop} {a : Act} {rest : List Oper} {d : Option Tmp} {x0 x1 x2 x3 x4 x5 x6 x7 : Operand} {ty : TypeId} {pos : String} {af : Array Edge} {b0 b1 b2 b3 b4 b5 b6 b7 : UInt8}
theorem run_build8 (f : Operand → Value) (h0 : f x0 = B b0) (h1 : f x1 = B b1) (h2 : f x2 = B b2) (h3 : f x3 = B b3) (h4 : f x4 = B b4) (h5 : f x5 = B b5) (h6 : f x6 = B b6) (h7 : f x7 = B b7) :
    (execOp f { dst := d, op := .buildSlice 24 8 #[(0, x0), (1, x1), (2, x2), (3, x3), (4, x4), (5, x5), (6, x6), (7, x7)], type := ty, pos := pos, after := af, guard := none }).run Try.prog w = .ok (.value (.slice (some ⟨w.heap.size, 0, none⟩) 8 8)) (w.alloc (.cells (([b0, b1, b2, b3, b4, b5, b6, b7] : List UInt8).map B).toArray 5)) := by
  simp [execOp, go_sem, h0, h1, h2, h3, h4, h5, h6, h7]
theorem s_build8 (h0 : a.eval x0 = B b0) (h1 : a.eval x1 = B b1) (h2 : a.eval x2 = B b2) (h3 : a.eval x3 = B b3) (h4 : a.eval x4 = B b4) (h5 : a.eval x5 = B b5) (h6 : a.eval x6 = B b6) (h7 : a.eval x7 = B b7)
    (h : wpList Try.prog ops Q rest (a.put d (.slice (some ⟨w.heap.size, 0, none⟩) 8 8)) (w.alloc (.cells (([b0, b1, b2, b3, b4, b5, b6, b7] : List UInt8).map B).toArray 5))) :
    wpList Try.prog ops Q ({ dst := d, op := .buildSlice 24 8 #[(0, x0), (1, x1), (2, x2), (3, x3), (4, x4), (5, x5), (6, x6), (7, x7)], type := ty, pos := pos, after := af, guard := none } :: rest) a w :=
  s_run rfl (run_build8 a.eval h0 h1 h2 h3 h4 h5 h6 h7) h
end

/-- Blocks from 'base' on alone are touched: one step more. -/
theorem below_own {base : Nat} {w w' : World} {v : Value} {bs : List UInt8} (ho : Owns w base v bs) (hb : base ≤ w.heap.size) (hg : w.grownBy w' v.ownBlock) : Below base w w' :=
  (Below.refl base w).grown hg hb (fun k hk => (ho.fresh k hk).1)
theorem below_cut {base : Nat} {w w' : World} (h : RB w w') (hb : base ≤ w.heap.size) : Below base w w' := Below.mono h hb

set_option maxHeartbeats 2000000 in
theorem beApp32_any (v : Value) (bs : List UInt8) (x : Md.W) (base : Nat) (w : World) (ho : Owns w base v bs) (hbase : base ≤ w.heap.size) (hl : bs.length ≤ 1000000) :
    Calls Try.prog 53 #[v, U x] w fun e w' => ∃ v', e = .returned v' ∧ Owns w' base v' (bs ++ Md.be32 x) ∧ Below base w w' := by
  obtain ⟨y, hy⟩ : ∃ y, y = x.toNat := ⟨_, rfl⟩
  have hy2 : y < 4294967296 := by rw [hy]; exact x.isLt
  show Calls Try.prog 53 #[v, .int .u32 (x.toNat : Int)] w _
  rw [← hy]
  have e0 : (Value.int .u8 ((y : Int) % 256)) = B (UInt8.ofNat y) := (B_ofNat y).symm
  have e1 : (Value.int .u8 ((y : Int) / 256 % 256)) = B (UInt8.ofNat (y / 256)) := (B_ofNat (y / 256)).symm
  have e2 : (Value.int .u8 ((y : Int) / 65536 % 256)) = B (UInt8.ofNat (y / 65536)) := (B_ofNat (y / 65536)).symm
  have e3 : (Value.int .u8 ((y : Int) / 16777216)) = B (UInt8.ofNat (y / 16777216)) := by
    rw [B_ofNat]
    congr 1
    omega
  have E0 := Lib.hid e0
  have E1 := Lib.hid e1
  have E2 := Lib.hid e2
  have E3 := Lib.hid e3
  have HY := Lib.hid hy
  have HO := Lib.hid ho
  have HB := Lib.hid hbase
  have HL := Lib.hid hl
  clear e0 e1 e2 e3 hy ho hbase hl
  go_enter Try.func53, Try.ntmps53
  go_wp2_with (refine stand_build ?_)
  refine go_on (s_build4 E3.out E2.out E1.out E0.out ?_)
  have bB : RB w (w.alloc (.cells (([UInt8.ofNat (y / 16777216), UInt8.ofNat (y / 65536), UInt8.ofNat (y / 256), UInt8.ofNat y] : List UInt8).map B).toArray 5)) := (Below.refl _ _).alloc (Nat.le_refl _) _
  have rB : Row (w.alloc (.cells (([UInt8.ofNat (y / 16777216), UInt8.ofNat (y / 65536), UInt8.ofNat (y / 256), UInt8.ofNat y] : List UInt8).map B).toArray 5)) w.heap.size 5 [UInt8.ofNat (y / 16777216), UInt8.ofNat (y / 65536), UInt8.ofNat (y / 256), UInt8.ofNat y] := heap_alloc_at _ _ _ rfl
  generalize (w.alloc (.cells (([UInt8.ofNat (y / 16777216), UInt8.ofNat (y / 65536), UInt8.ofNat (y / 256), UInt8.ofNat y] : List UInt8).map B).toArray 5)) = wB at *
  have oB := HO.out.below bB
  refine s_app (v := v) (bs := bs) (cs := [UInt8.ofNat (y / 16777216), UInt8.ofNat (y / 65536), UInt8.ofNat (y / 256), UInt8.ofNat y]) rfl rfl oB (rB.reads 0 4 4 (by simp) (Nat.le_refl _) (by unfold maxLen; omega)) (by have := HL.out; simp; omega) (Nat.le_trans HB.out bB.size) (fun v1 w1 o1 g1 e1 => ?_)
  have O1 := Lib.hid o1
  have B1 : Hid (Below base w w1) := Lib.hid (Below.trans (below_cut bB HB.out) (below_own oB (Nat.le_trans HB.out bB.size) g1))
  clear bB rB oB o1 g1 e1
  go_wp2_with fail
  go_ret
  refine ⟨_, rfl, ?_, B1.out⟩
  unfold Md.be32
  rw [← HY.out]
  exact O1.out

set_option maxHeartbeats 2000000 in
theorem beApp64_any (v : Value) (bs : List UInt8) (y : Nat) (hy2 : y < 18446744073709551616) (base : Nat) (w : World) (ho : Owns w base v bs) (hbase : base ≤ w.heap.size) (hl : bs.length ≤ 1000000) :
    Calls Try.prog 54 #[v, .int .u64 (y : Int)] w fun e w' => ∃ v', e = .returned v' ∧ Owns w' base v' (bs ++ Md.be64 y) ∧ Below base w w' := by
  have e0 : (Value.int .u8 ((y : Int) % 256)) = B (UInt8.ofNat y) := (B_ofNat y).symm
  have e1 : (Value.int .u8 ((y : Int) / 256 % 256)) = B (UInt8.ofNat (y / 256)) := (B_ofNat (y / 256)).symm
  have e2 : (Value.int .u8 ((y : Int) / 65536 % 256)) = B (UInt8.ofNat (y / 65536)) := (B_ofNat (y / 65536)).symm
  have e3 : (Value.int .u8 ((y : Int) / 16777216 % 256)) = B (UInt8.ofNat (y / 16777216)) := (B_ofNat (y / 16777216)).symm
  have e4 : (Value.int .u8 ((y : Int) / 4294967296 % 256)) = B (UInt8.ofNat (y / 4294967296)) := (B_ofNat (y / 4294967296)).symm
  have e5 : (Value.int .u8 ((y : Int) / 1099511627776 % 256)) = B (UInt8.ofNat (y / 1099511627776)) := (B_ofNat (y / 1099511627776)).symm
  have e6 : (Value.int .u8 ((y : Int) / 281474976710656 % 256)) = B (UInt8.ofNat (y / 281474976710656)) := (B_ofNat (y / 281474976710656)).symm
  have e7 : (Value.int .u8 ((y : Int) / 72057594037927936)) = B (UInt8.ofNat (y / 72057594037927936)) := by
    rw [B_ofNat]
    congr 1
    omega
  have E0 := Lib.hid e0
  have E1 := Lib.hid e1
  have E2 := Lib.hid e2
  have E3 := Lib.hid e3
  have E4 := Lib.hid e4
  have E5 := Lib.hid e5
  have E6 := Lib.hid e6
  have E7 := Lib.hid e7
  have HO := Lib.hid ho
  have HB := Lib.hid hbase
  have HL := Lib.hid hl
  clear e0 e1 e2 e3 e4 e5 e6 e7 ho hbase hl
  go_enter Try.func54, Try.ntmps54
  go_wp2_with (refine stand_build ?_)
  refine go_on (s_build8 E7.out E6.out E5.out E4.out E3.out E2.out E1.out E0.out ?_)
  have bB : RB w (w.alloc (.cells ((Md.be64 y).map B).toArray 5)) := (Below.refl _ _).alloc (Nat.le_refl _) _
  have rB : Row (w.alloc (.cells ((Md.be64 y).map B).toArray 5)) w.heap.size 5 (Md.be64 y) := heap_alloc_at _ _ _ rfl
  refine (show wpList Try.prog _ _ _ _ (w.alloc (.cells ((Md.be64 y).map B).toArray 5)) from ?_)
  generalize (w.alloc (.cells ((Md.be64 y).map B).toArray 5)) = wB at *
  have oB := HO.out.below bB
  have hl8 : (Md.be64 y).length = 8 := rfl
  refine s_app (v := v) (bs := bs) (cs := Md.be64 y) rfl rfl oB (by have h := rB.reads 0 8 8 (by rw [hl8]; omega) (Nat.le_refl _) (by unfold maxLen; omega); rw [List.drop_zero, List.take_of_length_le (by rw [hl8]; omega)] at h; exact h) (by have := HL.out; rw [hl8]; omega) (Nat.le_trans HB.out bB.size) (fun v1 w1 o1 g1 e1 => ?_)
  have O1 := Lib.hid o1
  have B1 : Hid (Below base w w1) := Lib.hid (Below.trans (below_cut bB HB.out) (below_own oB (Nat.le_trans HB.out bB.size) g1))
  clear bB rB oB o1 g1 e1 hl8
  go_wp2_with fail
  go_ret
  exact ⟨_, rfl, O1.out, B1.out⟩
end Go.Proofs.Ytkjapcmnopnblaa
