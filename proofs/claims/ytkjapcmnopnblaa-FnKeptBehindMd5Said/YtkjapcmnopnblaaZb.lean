/- md5.ZZBlock: a state taken up with whole blocks, by value. -/
import Derived.Test.YtkjapcmnopnblaaAp
import Derived.Deep.MidRow
import Derived.Laws.ResultCell
namespace Go.Proofs.Ytkjapcmnopnblaa
open Go.RowKit
theorem heap_alloc_at (w : World) (o : Obj) (n : Nat) (h : n = w.heap.size) : (w.alloc o).heap[n]? = some o := by subst h; exact heap_alloc_new w o
theorem heap_alloc_lt (w : World) (o : Obj) (n : Nat) (h : n < w.heap.size) : (w.alloc o).heap[n]? = w.heap[n]? := Below.heap_alloc w o n h
theorem cell_of {w : World} {g : Nat} {C : Array Value} {t : TypeId} (h : w.heap[g]? = some (.cells C t (0, 0))) (k : Nat) (hk : k < C.size) : (∃ u, w.cell? ⟨g, k, none⟩ = some u) ∧ w.frozen? ⟨g, k, none⟩ = false :=
  ⟨⟨C[k], by simp [World.cell?, h, Array.getElem?_eq_getElem hk]⟩, by simp [World.frozen?, h]⟩
theorem results_cell {fn : Func} {t : Tmp} {ty : TypeId} (h : fn.results = #[.cell t ty]) (tmps : Array Value) (P : Program) (w : World) (p : Addr) (hp : tmps.getD t undef = .pointer (some p)) {v : Value}
    (hl : (loadVar ty p).run P w = .ok v w) : (results fn tmps).run P w = .ok v w := by
  have hp' : tmps[t]?.getD undef = .pointer (some p) := by simpa using hp
  simp [results, h, hp', asAddr, hl]
def aggS (s : Md.St) : Value := .agg #[U s.a, U s.b, U s.c, U s.d]
/-- The cells of a new digest. -/
def digZ : Array Value := (digC ⟨0, 0, 0, 0⟩ (List.replicate 64 0) 0 0).toArray
theorem digZ_size : digZ.size = 70 := by rfl
theorem zero78 (w : World) : (zeroValue 78).run Try.prog w = .ok (.agg digZ) w := by kernel_rfl
theorem digZ_set (s : Md.St) : (((digZ.setIfInBounds 0 (U s.a)).setIfInBounds 1 (U s.b)).setIfInBounds 2 (U s.c)).setIfInBounds 3 (U s.d) = (digC s (List.replicate 64 0) 0 0).toArray := by
  simp [digZ, digC]
set_option maxRecDepth 100000 in
set_option maxHeartbeats 1000000 in
theorem zzBlock_any (s : Md.St) (pv : Value) (bs : List UInt8) (w : World) (h : Reads w pv bs) :
    Calls Try.prog 39 #[aggS s, pv] w fun e w' => e = .returned (aggS (Md.blks s bs)) ∧ Below w.heap.size w w' := by
  unfold aggS
  have hz := zero78
  have hz2 := digZ_size
  have h2 := h.below (((Below.refl _ w).alloc (Nat.le_refl _) (Obj.cells #[U s.a, U s.b, U s.c, U s.d] 59)))
  go_enter Try.func39, Try.ntmps39
  go_wp2_with fail
  obtain ⟨W, hW⟩ : ∃ W, W = (((w.alloc (Obj.cells #[U s.a, U s.b, U s.c, U s.d] 59)).alloc
          (Obj.cells #[Value.int IntKind.u32 0, Value.int IntKind.u32 0, Value.int IntKind.u32 0, Value.int IntKind.u32 0] 59)).alloc
      (Obj.cells ((((digZ.setIfInBounds 0 (U s.a)).setIfInBounds 1 (U s.b)).setIfInBounds 2 (U s.c)).setIfInBounds 3 (U s.d)) 78)) := ⟨_, rfl⟩
  rw [← hW]
  have hbW : Below w.heap.size w W := by rw [hW]; exact (((Below.refl _ _).alloc (Nat.le_refl _) _).alloc (by simp) _).alloc (by simp; omega) _
  have hD : Dig W (w.heap.size + 1 + 1) s (List.replicate 64 0) 0 0 := ⟨by rw [hW, digZ_set]; exact heap_alloc_at _ _ _ (by simp), by simp⟩
  have hc5 : ∃ C, W.heap[w.heap.size + 1]? = some (.cells C 59 (0, 0)) ∧ C.size = 4 := by
    refine ⟨_, by rw [hW, heap_alloc_lt _ _ _ (by simp)]; exact heap_alloc_at _ _ _ (by simp), rfl⟩
  clear hW h2
  refine (block_any (w.heap.size + 1 + 1) s (List.replicate 64 0) 0 0 pv bs W hD (h.below hbW)).mono ?_
  rintro e w1 ⟨rfl, hD1, hg1⟩
  have ca := hD1.a
  have cb := hD1.b
  have cc := hD1.c
  have cd := hD1.d
  obtain ⟨C, hC, hC4⟩ := hc5
  have hC1 := (hg1.block _ (Array.getElem?_eq_some_iff.1 hC).1 (by simp)).trans hC
  have q0 := cell_of hC1 0 (by omega)
  have q1 := cell_of hC1 1 (by omega)
  have q2 := cell_of hC1 2 (by omega)
  have q3 := cell_of hC1 3 (by omega)
  obtain ⟨⟨u0, q0⟩, f0⟩ := q0
  obtain ⟨⟨u1, q1⟩, f1⟩ := q1
  obtain ⟨⟨u2, q2⟩, f2⟩ := q2
  obtain ⟨⟨u3, q3⟩, f3⟩ := q3
  have HC1 : Hid _ := hC1
  clear hz hz2 hC hC1
  go_wp2
  have hC2 := HC1.out
  refine bodyPost_ret (v := aggS (Md.blks s bs)) ?_ rfl ⟨rfl, ?_⟩
  · refine results_cell (t := 4) (ty := 59) rfl _ _ _ ⟨w.heap.size + 1, 0, none⟩ rfl ?_
    refine run_loadVar_mid _ _ _ 59 [U (Md.blks s bs).a, U (Md.blks s bs).b, U (Md.blks s bs).c, U (Md.blks s bs).d] _ (fun j v hv => ?_) Try.underlying59 rfl (by kernel_rfl)
    have hh := heap_setCell_same (i := 3) (heap_setCell_same (i := 2) (heap_setCell_same (i := 1) (heap_setCell_same (i := 0) hC2 (U (Md.blks s bs).a)) (U (Md.blks s bs).b)) (U (Md.blks s bs).c)) (U (Md.blks s bs).d)
    simp only [World.cell?, hh]
    rw [Nat.zero_add, ← hv]
    match C, hC4 with
    | ⟨[x0, x1, x2, x3]⟩, _ => simp
  · exact ((((below_of_grown hbW hg1 (by omega)).setCell (by simp) _).setCell (by simp) _).setCell (by simp) _).setCell (by simp) _
end Go.Proofs.Ytkjapcmnopnblaa
