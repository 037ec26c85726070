/- The digest's small functions: words put as bytes, the lowest first; a digest that begins anew. -/
import Derived.Test.YtkjapcmnopnblaaWr
import Derived.Handy
namespace Go.Proofs.Ytkjapcmnopnblaa
open Go.RowKit
set_option linter.unusedVariables false

/-- Block g is an array of bytes. -/
def Row (w : World) (g : Nat) (t : TypeId) (bs : List UInt8) : Prop := w.heap[g]? = some (.cells (bs.map B).toArray t (0, 0))
theorem Row.of_heap {w w' : World} {g : Nat} {t : TypeId} {bs : List UInt8} (h : Row w g t bs) (hh : w'.heap[g]? = w.heap[g]?) : Row w' g t bs := hh.trans h
theorem Row.lt {w : World} {g : Nat} {t : TypeId} {bs : List UInt8} (h : Row w g t bs) : g < w.heap.size := (Array.getElem?_eq_some_iff.1 h).1
theorem Row.below {w w' : World} {g : Nat} {t : TypeId} {bs : List UInt8} (h : Row w g t bs) (hb : Below w.heap.size w w') : Row w' g t bs := h.of_heap (hb.block g h.lt)
theorem Row.dr {w w' : World} {g : Nat} {t : TypeId} {bs : List UInt8} (h : Row w g t bs) (hb : Dr w w') : Row w' g t bs := by
  obtain ⟨n, rfl⟩ := hb; exact h
theorem Row.grown {w w' : World} {g k : Nat} {t : TypeId} {bs : List UInt8} (h : Row w g t bs) (hg : w.grownBy w' (some k)) (hne : g ≠ k) : Row w' g t bs :=
  h.of_heap (hg.block g h.lt (fun e => hne (by injection e)))
theorem Row.cell {w : World} {g : Nat} {t : TypeId} {bs : List UInt8} (h : Row w g t bs) (j : Nat) (hj : j < bs.length) : w.cell? ⟨g, j, none⟩ = some (B (bs.getD j 0)) := by
  have h : w.heap[g]? = _ := h
  simp [World.cell?, h, List.getElem?_eq_getElem hj]
theorem Row.free {w : World} {g : Nat} {t : TypeId} {bs : List UInt8} (h : Row w g t bs) (j : Nat) : w.frozen? ⟨g, j, none⟩ = false := by
  have h : w.heap[g]? = _ := h
  simp [World.frozen?, h]
theorem Row.set {w : World} {g : Nat} {t : TypeId} {bs : List UInt8} (h : Row w g t bs) (j : Nat) (b : UInt8) : Row (w.setCell ⟨g, j, none⟩ (B b)) g t (bs.set j b) := by
  unfold Row
  rw [heap_setCell_same h, List.setIfInBounds_toArray, List.map_set]
theorem Row.reads {w : World} {g : Nat} {t : TypeId} {bs : List UInt8} (h : Row w g t bs) (o n c : Nat) (hn : o + n ≤ bs.length) (hc : n ≤ c) (hm : c ≤ maxLen) : Reads w (.slice (some ⟨g, o, none⟩) n c) ((bs.drop o).take n) := by
  refine ⟨some ⟨g, o, none⟩, c, by rw [List.length_take, List.length_drop, Nat.min_eq_left (by omega)], by rw [List.length_take, List.length_drop]; omega, hm, fun h0 => ⟨g, o, rfl, fun j hj => ?_⟩⟩
  rw [List.length_take, List.length_drop] at hj
  rw [h.cell (o + j) (by omega)]
  congr 2
  simp [List.getD_eq_getElem?_getD, show j < n by omega]

/-- Bytes put from place o on. -/
def setL : Nat → List UInt8 → List UInt8 → List UInt8
  | _, [], bs => bs
  | o, b :: l, bs => setL (o + 1) l (bs.set o b)
theorem setL_eq : ∀ (l : List UInt8) (o : Nat) (bs : List UInt8), o + l.length ≤ bs.length → setL o l bs = bs.take o ++ (l ++ bs.drop (o + l.length))
  | [], o, bs, _ => by simp [setL]
  | b :: l, o, bs, h => by
    rw [List.length_cons] at h
    simp only [setL]
    rw [setL_eq l (o + 1) (bs.set o b) (by rw [List.length_set]; omega)]
    have e1 : (bs.set o b).take (o + 1) = bs.take o ++ [b] := by
      rw [List.take_add_one, List.getElem?_set_self (by omega), List.take_set_of_le (by omega)]
      rfl
    have e2 : (bs.set o b).drop (o + 1 + l.length) = bs.drop (o + (b :: l).length) := by
      rw [List.drop_set_of_lt (by omega), List.length_cons]
      congr 1
      omega
    rw [e1, e2]
    simp

theorem B_ofNat (n : Nat) : B (UInt8.ofNat n) = .int .u8 ((n : Int) % 256) := by
  unfold B
  rw [UInt8.toNat_ofNat']
  rfl

set_option maxHeartbeats 2000000 in
theorem put32_any (g o n c : Nat) (t : TypeId) (bs : List UInt8) (v : Md.W) (w : World) (hR : Row w g t bs) (ho : o + 4 ≤ bs.length) (hn : 4 ≤ n) :
    Calls Try.prog 60 #[.slice (some ⟨g, o, none⟩) n c, U v] w fun e w' => e = .returned (.tuple #[]) ∧
      Row w' g t (setL o (Md.lo32 v) bs) ∧ w.grownBy w' (some g) := by
  have c0 := hR.cell o (by omega)
  have c1 := hR.cell (o + 1) (by omega)
  have c2 := hR.cell (o + 2) (by omega)
  have c3 := hR.cell (o + 3) (by omega)
  have z0 := hR.free o
  have z1 := hR.free (o + 1)
  have z2 := hR.free (o + 2)
  have z3 := hR.free (o + 3)
  have p0 : (0 : Int) < (n : Int) := by omega
  have p1 : (1 : Int) < (n : Int) := by omega
  have p2 : (2 : Int) < (n : Int) := by omega
  have p3 : (3 : Int) < (n : Int) := by omega
  obtain ⟨x, hx⟩ : ∃ x, x = v.toNat := ⟨_, rfl⟩
  have hx2 : x < 4294967296 := by rw [hx]; exact v.isLt
  unfold Md.lo32
  show Calls Try.prog 60 #[.slice (some ⟨g, o, none⟩) n c, .int .u32 (v.toNat : Int)] w _
  rw [← hx]
  have HR := Lib.hid hR
  clear hx hR
  go_enter Try.func60, Try.ntmps60
  go_wp2
  have e0 : (Value.int .u8 ((x : Int) % 256)) = B (UInt8.ofNat x) := (B_ofNat x).symm
  have e1 : (Value.int .u8 ((x : Int) / 256 % 256)) = B (UInt8.ofNat (x / 256)) := (B_ofNat (x / 256)).symm
  have e2 : (Value.int .u8 ((x : Int) / 65536 % 256)) = B (UInt8.ofNat (x / 65536)) := (B_ofNat (x / 65536)).symm
  have e3 : (Value.int .u8 ((x : Int) / 16777216)) = B (UInt8.ofNat (x / 16777216)) := by
    rw [B_ofNat]
    congr 1
    omega
  rw [e0, e1, e2, e3]
  exact ⟨rfl, _, results_none rfl _ _ _, rfl, (((HR.out.set o _).set (o + 1) _).set (o + 2) _).set (o + 3) _, grown_trans (grown_trans (grown_trans (grown_setCell _ _ _ _) (grown_setCell _ _ _ _)) (grown_setCell _ _ _ _)) (grown_setCell _ _ _ _)⟩

set_option maxHeartbeats 4000000 in
theorem put64_any (g o n c : Nat) (t : TypeId) (bs : List UInt8) (v : Nat) (hv : v < 18446744073709551616) (w : World) (hR : Row w g t bs) (ho : o + 8 ≤ bs.length) (hn : 8 ≤ n) :
    Calls Try.prog 59 #[.slice (some ⟨g, o, none⟩) n c, .int .u64 (v : Int)] w fun e w' => e = .returned (.tuple #[]) ∧
      Row w' g t (setL o (Md.le64 v) bs) ∧ w.grownBy w' (some g) := by
  have c0 := hR.cell o (by omega)
  have c1 := hR.cell (o + 1) (by omega)
  have c2 := hR.cell (o + 2) (by omega)
  have c3 := hR.cell (o + 3) (by omega)
  have c4 := hR.cell (o + 4) (by omega)
  have c5 := hR.cell (o + 5) (by omega)
  have c6 := hR.cell (o + 6) (by omega)
  have c7 := hR.cell (o + 7) (by omega)
  have z0 := hR.free o
  have z1 := hR.free (o + 1)
  have z2 := hR.free (o + 2)
  have z3 := hR.free (o + 3)
  have z4 := hR.free (o + 4)
  have z5 := hR.free (o + 5)
  have z6 := hR.free (o + 6)
  have z7 := hR.free (o + 7)
  have p0 : (0 : Int) < (n : Int) := by omega
  have p1 : (1 : Int) < (n : Int) := by omega
  have p2 : (2 : Int) < (n : Int) := by omega
  have p3 : (3 : Int) < (n : Int) := by omega
  have p4 : (4 : Int) < (n : Int) := by omega
  have p5 : (5 : Int) < (n : Int) := by omega
  have p6 : (6 : Int) < (n : Int) := by omega
  have p7 : (7 : Int) < (n : Int) := by omega
  have HR := Lib.hid hR
  clear hR
  go_enter Try.func59, Try.ntmps59
  go_wp2
  go_rounds 9
  have e0 : (Value.int .u8 ((v : Int) % 256)) = B (UInt8.ofNat v) := (B_ofNat v).symm
  have e1 : (Value.int .u8 ((v : Int) / 256 % 256)) = B (UInt8.ofNat (v / 256)) := (B_ofNat (v / 256)).symm
  have e2 : (Value.int .u8 ((v : Int) / 65536 % 256)) = B (UInt8.ofNat (v / 65536)) := (B_ofNat (v / 65536)).symm
  have e3 : (Value.int .u8 ((v : Int) / 16777216 % 256)) = B (UInt8.ofNat (v / 16777216)) := (B_ofNat (v / 16777216)).symm
  have e4 : (Value.int .u8 ((v : Int) / 4294967296 % 256)) = B (UInt8.ofNat (v / 4294967296)) := (B_ofNat (v / 4294967296)).symm
  have e5 : (Value.int .u8 ((v : Int) / 1099511627776 % 256)) = B (UInt8.ofNat (v / 1099511627776)) := (B_ofNat (v / 1099511627776)).symm
  have e6 : (Value.int .u8 ((v : Int) / 281474976710656 % 256)) = B (UInt8.ofNat (v / 281474976710656)) := (B_ofNat (v / 281474976710656)).symm
  have e7 : (Value.int .u8 ((v : Int) / 72057594037927936)) = B (UInt8.ofNat (v / 72057594037927936)) := by
    rw [B_ofNat]
    congr 1
    omega
  rw [e0, e1, e2, e3, e4, e5, e6, e7]
  have hl : Md.le64 v = [UInt8.ofNat v, UInt8.ofNat (v / 256), UInt8.ofNat (v / 65536), UInt8.ofNat (v / 16777216), UInt8.ofNat (v / 4294967296), UInt8.ofNat (v / 1099511627776), UInt8.ofNat (v / 281474976710656), UInt8.ofNat (v / 72057594037927936)] := by
    simp [Md.le64, List.range, List.range.loop]
  rw [hl]
  exact ⟨rfl, _, results_none rfl _ _ _, rfl, (((((((HR.out.set o _).set (o + 1) _).set (o + 2) _).set (o + 3) _).set (o + 4) _).set (o + 5) _).set (o + 6) _).set (o + 7) _,
    grown_trans (grown_trans (grown_trans (grown_trans (grown_trans (grown_trans (grown_trans (grown_setCell _ _ _ _) (grown_setCell _ _ _ _)) (grown_setCell _ _ _ _)) (grown_setCell _ _ _ _)) (grown_setCell _ _ _ _)) (grown_setCell _ _ _ _)) (grown_setCell _ _ _ _)) (grown_setCell _ _ _ _)⟩

set_option maxHeartbeats 2000000 in
theorem reset_any (g : Nat) (s : Md.St) (xs : List UInt8) (nx ln : Nat) (w : World) (hD : Dig w g s xs nx ln) :
    Calls Try.prog 45 #[.pointer (some ⟨g, 0, none⟩)] w fun e w' => e = .returned (.tuple #[]) ∧ Dig w' g Md.init xs 0 0 ∧ w.grownBy w' (some g) := by
  have c0 := hD.a
  have c1 := hD.b
  have c2 := hD.c
  have c3 := hD.d
  have c4 := hD.nx
  have c5 := hD.ln
  have z0 := hD.free 0
  have z1 := hD.free 1
  have z2 := hD.free 2
  have z3 := hD.free 3
  have z4 := hD.free 68
  have z5 := hD.free 69
  have HD := Lib.hid hD
  clear hD
  go_enter Try.func45, Try.ntmps45
  go_wp2
  have h := HD.out.heap
  have hl := HD.out.len
  have d4 : Dig ((((w.setCell ⟨g, 0, none⟩ (.int .u32 1732584193)).setCell ⟨g, 1, none⟩ (.int .u32 4023233417)).setCell ⟨g, 2, none⟩ (.int .u32 2562383102)).setCell ⟨g, 3, none⟩ (.int .u32 271733878)) g Md.init xs nx ln := by
    refine ⟨?_, hl⟩
    rw [heap_setCell_same (heap_setCell_same (heap_setCell_same (heap_setCell_same h _) _) _) _]
    rfl
  exact ⟨rfl, _, results_none rfl _ _ _, rfl, dig_ln (dig_nx d4 0) 0, grown_trans (grown_trans (grown_trans (grown_trans (grown_trans (grown_setCell _ _ _ _) (grown_setCell _ _ _ _)) (grown_setCell _ _ _ _)) (grown_setCell _ _ _ _)) (grown_setCell _ _ _ _)) (grown_setCell _ _ _ _)⟩
end Go.Proofs.Ytkjapcmnopnblaa
