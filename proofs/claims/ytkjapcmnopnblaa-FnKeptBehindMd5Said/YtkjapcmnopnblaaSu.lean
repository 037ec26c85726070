/- md5.Sum and impl.OneMd5: the hash of bytes at once. -/
import Derived.Test.YtkjapcmnopnblaaCs
namespace Go.Proofs.Ytkjapcmnopnblaa
open Go.RowKit
set_option linter.unusedVariables false

theorem digZ_eq : digZ = (digC ⟨0, 0, 0, 0⟩ (List.replicate 64 0) 0 0).toArray := rfl

theorem s_store65 {w : World} {ops : Array Oper} {Q : Exit → Act → World → Prop} {a : Act} {rest : List Oper} {x y : Operand} {ty : TypeId} {pos : String} {af : Array Edge} {n : Nat} {cs Z : List UInt8}
    (hx : a.eval x = .pointer (some ⟨n, 0, none⟩)) (hy : a.eval y = aggB cs) (hl : cs.length = 16) (hR : Row w n 65 Z) (hz : Z.length = 16)
    (h : ∀ w', Row w' n 65 cs → w.grownBy w' (some n) → wpList Try.prog ops Q rest a w') :
    wpList Try.prog ops Q ({ dst := none, op := .store 65 x y, type := ty, pos := pos, after := af, guard := none } :: rest) a w :=
  wpList_store_mid rfl 65 x y rfl n 0 (cs.map B).toArray hx hy (by
    have h := row_there hR
    rw [hz] at h
    simpa [hl] using h) (by simp only [List.size_toArray, List.length_map, hl]; kernel_rfl) (all_oneCell_toArray (oneCell_B _)) (h _ (row_store hR cs (by rw [hl, hz])) (grown_setCells _ _ 0 w))

set_option maxRecDepth 100000 in
set_option maxHeartbeats 4000000 in
theorem sum_any (pv : Value) (bs : List UInt8) (w : World) (hR : Reads w pv bs) (hb : ∀ k, pv.ownBlock = some k → k < w.heap.size) (hl : bs.length ≤ 288230376151711744) :
    Calls Try.prog 42 #[pv] w fun e w' => e = .returned (aggB (Md.md5 bs)) ∧ Below w.heap.size w w' := by
  have hz := zero65
  have hz2 := Z16_size
  have hz3 := zero78
  have hz4 := digZ_size
  have HR := Lib.hid hR
  have HL := Lib.hid hl
  have HB := Lib.hid hb
  clear hR hl hb
  go_enter Try.func42, Try.ntmps42
  go_wp2_with fail
  have b1 : Below w.heap.size w (w.alloc (.cells Z16 65)) := (Below.refl _ _).alloc (Nat.le_refl _) _
  have b2 : Below w.heap.size w ((w.alloc (.cells Z16 65)).alloc (.cells digZ 78)) := b1.alloc (by rw [World.size_alloc]; omega) _
  have rz : Row ((w.alloc (.cells Z16 65)).alloc (.cells digZ 78)) w.heap.size 65 (List.replicate 16 0) := (heap_alloc_lt _ _ _ (by rw [World.size_alloc]; omega)).trans (heap_alloc_at _ _ _ rfl)
  have d0 : Dig ((w.alloc (.cells Z16 65)).alloc (.cells digZ 78)) (w.heap.size + 1) ⟨0, 0, 0, 0⟩ (List.replicate 64 0) 0 0 := ⟨heap_alloc_at _ _ _ (by rw [World.size_alloc]), by simp⟩
  generalize ((w.alloc (.cells Z16 65)).alloc (.cells digZ 78)) = w2 at *
  refine (reset_any (w.heap.size + 1) _ _ 0 0 w2 d0).mono ?_
  rintro e w3 ⟨rfl, d3, g3⟩
  have b3 : Below w.heap.size w w3 := Below.grown b2 g3 b2.size (fun k hk => by injection hk with hk; omega)
  have R3 := Lib.hid (⟨_, _, _, d3, Md.rp_init d3.len⟩ : Rep w3 (w.heap.size + 1) [])
  have B3 := Lib.hid b3
  have Z3 := Lib.hid (rz.grown g3 (by omega))
  have G3 := Lib.hid g3
  clear b1 b2 rz d0 d3 g3 b3
  go_wp2_with fail
  have hr3 := HR.out.below (Below.mono B3.out (Nat.le_refl _))
  refine (write_any (w.heap.size + 1) pv [] bs w3 R3.out hr3 ?_ (by have := HL.out; simp; omega)).mono ?_
  · intro h
    have := HB.out _ h
    omega
  rintro e w4 ⟨rfl, r4, g4⟩
  have R4 := Lib.hid r4
  have Z4 := Lib.hid (Z3.out.grown g4 (by omega))
  have B4 := Lib.hid (Below.grown B3.out g4 B3.out.size (fun k hk => by injection hk with hk; omega))
  clear r4 g4 hr3
  go_wp2_with fail
  refine (checkSum_any (w.heap.size + 1) bs w4 R4.out HL.out).mono ?_
  rintro e w5 ⟨rfl, g5⟩
  have Z5 := Lib.hid (Z4.out.grown g5 (by omega))
  have B5 := Lib.hid (Below.grown B4.out g5 B4.out.size (fun k hk => by injection hk with hk; omega))
  clear g5
  go_wp2_with (refine stand_store ?_)
  refine go_on (s_store65 (n := w.heap.size) (cs := Md.md5 bs) rfl rfl (Md.md5_length _) Z5.out (by simp) (fun w6 r6 g6 => ?_))
  have b6 : Below w.heap.size w w6 := below_of_grown B5.out g6 (Nat.le_refl _)
  have R6 := Lib.hid r6
  have B6 := Lib.hid b6
  clear r6 b6
  go_wp2_with fail
  refine bodyPost_ret (v := aggB (Md.md5 bs)) ?_ rfl ⟨rfl, B6.out⟩
  refine results_cell (t := 2) (ty := 65) rfl _ _ _ ⟨w.heap.size, 0, none⟩ rfl ?_
  exact run_loadVar_mid _ _ 0 65 ((Md.md5 bs).map B) _ (row_range R6.out) Try.underlying65 rfl (by rw [List.length_map, Md.md5_length]; kernel_rfl)

set_option maxHeartbeats 2000000 in
theorem one_any (pv : Value) (bs : List UInt8) (w : World) (hR : Reads w pv bs) (hl : bs.length ≤ 140737488355328) :
    Calls Try.prog 25 #[pv] w fun e w' => ∃ v, e = .returned v ∧ Reads w' v (Md.md5 bs) ∧ Below w.heap.size w w' := by
  have hz := zero65
  have hz2 := Z16_size
  have HR := Lib.hid hR
  have HL := Lib.hid hl
  clear hR hl
  go_enter Try.func25, Try.ntmps25
  go_wp2_with fail
  refine (copied_any pv bs w HR.out HL.out).mono ?_
  rintro e w1 ⟨v1, rfl, o1, b1⟩
  have O1 := Lib.hid o1
  have B1 := Lib.hid b1
  clear o1 b1
  go_wp2_with fail
  refine (sum_any v1 bs w1 O1.out.reads (fun k hk => (O1.out.fresh k hk).2) (by have := HL.out; omega)).mono ?_
  rintro e w2 ⟨rfl, b2⟩
  have B2 := Lib.hid (RB.trans (a := w) B1.out b2)
  clear b2
  go_wp2_with (refine stand_store ?_)
  have r3 : Row (w2.alloc (.cells Z16 65)) w2.heap.size 65 (List.replicate 16 0) := heap_alloc_at _ _ _ rfl
  have b3 : Below w.heap.size w (w2.alloc (.cells Z16 65)) := B2.out.alloc B2.out.size _
  have hsz := B2.out.size
  refine go_on (s_store65 (n := w2.heap.size) (cs := Md.md5 bs) rfl rfl (Md.md5_length _) r3 (by simp) (fun w4 r4 g4 => ?_))
  have b4 : Below w.heap.size w w4 := Below.grown b3 g4 b3.size (fun k hk => by injection hk with hk; omega)
  have R4 := Lib.hid r4
  have B4 := Lib.hid b4
  clear r3 b3 hsz r4 b4 g4
  go_wp2_with fail
  go_ret
  refine ⟨_, rfl, ?_, B4.out⟩
  have h := R4.out.reads 0 16 16 (by rw [Md.md5_length]; omega) (Nat.le_refl _) (by unfold maxLen; omega)
  rw [List.drop_zero, List.take_of_length_le (by rw [Md.md5_length]; omega)] at h
  exact h
end Go.Proofs.Ytkjapcmnopnblaa
