/- The reference's functions: the state at first, words as bytes, a text filled up, the hash. -/
import Derived.Test.YtkjapcmnopnblaaSu
namespace Go.Proofs.Ytkjapcmnopnblaa
open Go.RowKit
set_option linter.unusedVariables false

/-- Words as bytes. -/
def lows (ws : List Md.W) : List UInt8 := ws.flatMap Md.lo32
theorem lows_length (ws : List Md.W) : (lows ws).length = 4 * ws.length := by
  induction ws with
  | nil => rfl
  | cons w r ih =>
    have : lows (w :: r) = Md.lo32 w ++ lows r := rfl
    rw [this, List.length_append, ih, List.length_cons]
    simp [Md.lo32]
    omega
theorem lows_stL (s : Md.St) : lows (stL s) = Md.low s := by simp [lows, stL, Md.low]
theorem lows_take (ws : List Md.W) (j : Nat) (h : j < ws.length) : lows (ws.take (j + 1)) = lows (ws.take j) ++ Md.lo32 (ws.getD j 0) := by
  rw [List.take_add_one, List.getElem?_eq_getElem h, List.getD_eq_getElem?_getD, List.getElem?_eq_getElem h]
  unfold lows
  rw [List.flatMap_append]
  simp only [Option.toList_some, Option.getD_some, List.flatMap_cons, List.flatMap_nil, List.append_nil]

section
variable {w : World} {ops : Array Oper} {Q : Exit → Act → World → Prop} {a : Act} {rest : List Oper} {d : Option Tmp} {x0 x1 x2 x3 : Operand} {ty : TypeId} {pos : String} {af : Array Edge} {b0 b1 b2 b3 : UInt8}
theorem run_build4 (f : Operand → Value) (h0 : f x0 = B b0) (h1 : f x1 = B b1) (h2 : f x2 = B b2) (h3 : f x3 = B b3) :
    (execOp f { dst := d, op := .buildSlice 24 4 #[(0, x0), (1, x1), (2, x2), (3, x3)], type := ty, pos := pos, after := af, guard := none }).run Try.prog w = .ok (.value (.slice (some ⟨w.heap.size, 0, none⟩) 4 4)) (w.alloc (.cells (([b0, b1, b2, b3] : List UInt8).map B).toArray 5)) := by
  simp [execOp, go_sem, h0, h1, h2, h3]
theorem run_build1 (f : Operand → Value) (h0 : f x0 = B b0) :
    (execOp f { dst := d, op := .buildSlice 24 1 #[(0, x0)], type := ty, pos := pos, after := af, guard := none }).run Try.prog w = .ok (.value (.slice (some ⟨w.heap.size, 0, none⟩) 1 1)) (w.alloc (.cells (([b0] : List UInt8).map B).toArray 5)) := by
  simp [execOp, go_sem, h0]
theorem s_build4 (h0 : a.eval x0 = B b0) (h1 : a.eval x1 = B b1) (h2 : a.eval x2 = B b2) (h3 : a.eval x3 = B b3)
    (h : wpList Try.prog ops Q rest (a.put d (.slice (some ⟨w.heap.size, 0, none⟩) 4 4)) (w.alloc (.cells (([b0, b1, b2, b3] : List UInt8).map B).toArray 5))) :
    wpList Try.prog ops Q ({ dst := d, op := .buildSlice 24 4 #[(0, x0), (1, x1), (2, x2), (3, x3)], type := ty, pos := pos, after := af, guard := none } :: rest) a w := by
  exact s_run rfl (run_build4 a.eval h0 h1 h2 h3) h
theorem s_build1 (h0 : a.eval x0 = B b0)
    (h : wpList Try.prog ops Q rest (a.put d (.slice (some ⟨w.heap.size, 0, none⟩) 1 1)) (w.alloc (.cells (([b0] : List UInt8).map B).toArray 5))) :
    wpList Try.prog ops Q ({ dst := d, op := .buildSlice 24 1 #[(0, x0)], type := ty, pos := pos, after := af, guard := none } :: rest) a w := by
  exact s_run rfl (run_build1 a.eval h0) h
end

set_option maxRecDepth 100000 in
set_option maxHeartbeats 4000000 in
theorem low32_any (hv : Value) (ws : List Md.W) (w : World) (h : Words w hv ws) (hl : ws.length ≤ 1000) :
    Calls Try.prog 29 #[hv] w fun e w' => ∃ v, e = .returned v ∧ Owns w' w.heap.size v (lows ws) ∧ Below w.heap.size w w' := by
  obtain ⟨a1, c1, rfl, hc1, hm1, _⟩ := id h
  obtain ⟨n, hn⟩ : ∃ n, n = ws.length := ⟨_, rfl⟩
  rw [← hn] at hc1 hl ⊢
  have H1 := Lib.hid h
  have HN := Lib.hid hn
  clear h hn
  go_enter Try.func29, Try.ntmps29
  go_wp2_with fail
  have hE : Below w.heap.size w (w.alloc (.cells #[] 5)) := (Below.refl _ _).alloc (Nat.le_refl _) _
  have oE := Owns.empty w
  go_loopw [3, 9] (fun x i wr => ∃ (j : Nat), j ≤ n ∧ i = .int .i64 (j : Int) ∧ Hid (Owns wr w.heap.size x (lows (ws.take j))) ∧ Hid (Below w.heap.size w wr))
    (fun _ i _ => n - (intOf i).toNat)
  case atStart => exact ⟨0, Nat.zero_le _, rfl, oE, hE⟩
  case round =>
    obtain ⟨j, hj, rfl, ho, hb⟩ := hrel
    by_cases hlt : j < n
    · have q : (j : Int) < (n : Int) := by omega
      have hw := H1.out.below hb.out
      obtain ⟨_, _, e, _, _, hcl⟩ := id hw
      obtain ⟨b, o, e2, hcell⟩ := hcl (by rw [← HN.out]; omega)
      injection e with e3 e4 e5
      subst e5 e3 e2
      have L0 := hcell j (by rw [← HN.out]; exact hlt)
      have q1 : (j : Int) < 9223372036854775807 := by omega
      have HC := Lib.hid hcl
      clear hw hcl hcell
      obtain ⟨x, hx⟩ : ∃ x, x = (ws.getD j 0).toNat := ⟨_, rfl⟩
      have hx2 : x < 4294967296 := by rw [hx]; exact (ws.getD j 0).isLt
      have L : wr.cell? ⟨b, o + j, none⟩ = some (.int .u32 (x : Int)) := by rw [hx]; exact L0
      clear L0
      have e0 : (Value.int .u8 ((x : Int) % 256)) = B (UInt8.ofNat x) := (B_ofNat x).symm
      have e1 : (Value.int .u8 ((x : Int) / 256 % 256)) = B (UInt8.ofNat (x / 256)) := (B_ofNat (x / 256)).symm
      have e2 : (Value.int .u8 ((x : Int) / 65536 % 256)) = B (UInt8.ofNat (x / 65536)) := (B_ofNat (x / 65536)).symm
      have e3 : (Value.int .u8 ((x : Int) / 16777216)) = B (UInt8.ofNat (x / 16777216)) := by
        rw [B_ofNat]
        congr 1
        omega
      have E0 := Lib.hid e0
      have E1 := Lib.hid e1
      have E2 := Lib.hid e2
      have E3 := Lib.hid e3
      have HX := Lib.hid hx
      clear e0 e1 e2 e3 hx
      go_wp2_with (refine stand_build ?_)
      refine go_on (s_build4 E0.out E1.out E2.out E3.out ?_)
      have bB : Below wr.heap.size wr (wr.alloc (.cells (([UInt8.ofNat x, UInt8.ofNat (x / 256), UInt8.ofNat (x / 65536), UInt8.ofNat (x / 16777216)] : List UInt8).map B).toArray 5)) := (Below.refl _ _).alloc (Nat.le_refl _) _
      have rB : Row (wr.alloc (.cells (([UInt8.ofNat x, UInt8.ofNat (x / 256), UInt8.ofNat (x / 65536), UInt8.ofNat (x / 16777216)] : List UInt8).map B).toArray 5)) wr.heap.size 5 [UInt8.ofNat x, UInt8.ofNat (x / 256), UInt8.ofNat (x / 65536), UInt8.ofNat (x / 16777216)] := heap_alloc_at _ _ _ rfl
      generalize (wr.alloc (.cells (([UInt8.ofNat x, UInt8.ofNat (x / 256), UInt8.ofNat (x / 65536), UInt8.ofNat (x / 16777216)] : List UInt8).map B).toArray 5)) = wB at *
      have oB := ho.out.below bB
      refine s_app (v := u3) (bs := lows (ws.take j)) (cs := [UInt8.ofNat x, UInt8.ofNat (x / 256), UInt8.ofNat (x / 65536), UInt8.ofNat (x / 16777216)]) rfl rfl oB (rB.reads 0 4 4 (by simp) (Nat.le_refl _) (by unfold maxLen; omega)) (by rw [lows_length, List.length_take]; simp; omega) (Nat.le_trans hb.out.size bB.size) (fun v1 w1 o1 g1 e1 => ?_)
      have b1 : Below w.heap.size w w1 := Below.grown (RB.trans (a := w) hb.out bB) g1 (Nat.le_trans hb.out.size bB.size) (fun k hk => (ho.out.fresh k hk).1)
      have e2 : lows (ws.take j) ++ [UInt8.ofNat x, UInt8.ofNat (x / 256), UInt8.ofNat (x / 65536), UInt8.ofNat (x / 16777216)] = lows (ws.take (j + 1)) := by
        rw [lows_take ws j (by rw [← HN.out]; exact hlt), HX.out]
        rfl
      rw [e2] at o1
      have O1 := Lib.hid o1
      have B1 := Lib.hid b1
      clear bB rB oB o1 g1 e1 b1 e2
      go_wp2
      go_roundw
      case rel => exact ⟨j + 1, hlt, by simp, O1, B1⟩
      case measure => simp [intOf]; omega
    · obtain rfl : j = n := by omega
      have q : ¬ (j : Int) < (j : Int) := by omega
      clear hlt
      go_wp2_with fail
      go_ret
      have h := ho.out
      rw [HN.out, List.take_of_length_le (Nat.le_refl _)] at h
      exact ⟨_, rfl, h, hb.out⟩
end Go.Proofs.Ytkjapcmnopnblaa
