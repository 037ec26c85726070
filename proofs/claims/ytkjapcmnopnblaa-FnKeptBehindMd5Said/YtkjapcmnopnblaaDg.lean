/- A digest's cells: stores of its two numbers, bytes copied into the bytes that wait; slices of bytes. -/
import Derived.Test.YtkjapcmnopnblaaIb
import Derived.Test.YtkjapcmnopnblaaL5
import Derived.Test.YtkjapcmnopnblaaPl
import Derived.Test.YtkjapcmnopnblaaOp
import Derived.Laws.CopyRow
namespace Go.Proofs.Ytkjapcmnopnblaa
open Go.RowKit
set_option linter.unusedVariables false

theorem dig_ln {w : World} {g : Nat} {s : Md.St} {xs : List UInt8} {nx ln : Nat} (h : Dig w g s xs nx ln) (k : Nat) : Dig (w.setCell ⟨g, 69, none⟩ (.int .u64 (k : Int))) g s xs nx k := by
  refine ⟨?_, h.len⟩
  rw [heap_setCell_same h.heap]
  have e : (digC s xs nx ln).set 69 (.int .u64 (k : Int)) = digC s xs nx k := by
    show U s.a :: U s.b :: U s.c :: U s.d :: (xs.map B ++ [Value.int .i64 (nx : Int), Value.int .u64 (ln : Int)]).set 65 _ = _
    rw [List.set_append_right _ _ (by rw [List.length_map, h.len]; omega), List.length_map, h.len]
    rfl
  rw [List.setIfInBounds_toArray, e]
theorem dig_nx {w : World} {g : Nat} {s : Md.St} {xs : List UInt8} {nx ln : Nat} (h : Dig w g s xs nx ln) (k : Nat) : Dig (w.setCell ⟨g, 68, none⟩ (.int .i64 (k : Int))) g s xs k ln := by
  refine ⟨?_, h.len⟩
  rw [heap_setCell_same h.heap]
  have e : (digC s xs nx ln).set 68 (.int .i64 (k : Int)) = digC s xs k ln := by
    show U s.a :: U s.b :: U s.c :: U s.d :: (xs.map B ++ [Value.int .i64 (nx : Int), Value.int .u64 (ln : Int)]).set 64 _ = _
    rw [List.set_append_right _ _ (by rw [List.length_map, h.len]; omega), List.length_map, h.len]
    rfl
  rw [List.setIfInBounds_toArray, e]

theorem heap_setRow_ne {w : World} {g k : Nat} (C : Array Value) (hk : k ≠ g) : (w.setRow g C).heap[k]? = w.heap[k]? := by
  simp [World.setRow, Array.getElem?_modify, Ne.symm hk]
theorem grown_setRow (w : World) (g : Nat) (C : Array Value) : w.grownBy (w.setRow g C) (some g) :=
  ⟨rfl, rfl, rfl, by simp [World.setRow], fun k _ hk => heap_setRow_ne C (fun e => hk (by rw [e]))⟩

/-- Bytes copied into a digest's bytes that wait, from place o on. -/
theorem run_copyx {w : World} {g : Nat} {s : Md.St} {xs : List UInt8} {nx ln : Nat} (hD : Dig w g s xs nx ln) (o : Nat) (ho : o ≤ 64) {pv : Value} {bs : List UInt8} (hR : Reads w pv bs) (ty : TypeId) (c : Nat) :
    ∃ w', (Builtin.copy_ #[24, 24] ty #[.slice (some ⟨g, 4 + o, none⟩) (64 - o) c, pv]).run Try.prog w = .ok (.int .i64 ((min (64 - o) bs.length : Nat) : Int)) w' ∧
      Dig w' g s (xs.take o ++ bs.take (64 - o) ++ xs.drop (o + min (64 - o) bs.length)) nx ln ∧ w.grownBy w' (some g) := by
  obtain ⟨i, hi, hz, hs, hb⟩ := info_parts info5
  obtain ⟨ad, c2, rfl, h1, h2, h3⟩ := hR
  have hlen := hD.len
  rcases ad with _ | ad
  · have h0 : bs.length = 0 := by
      rcases Nat.eq_zero_or_pos bs.length with h | h
      · exact h
      · obtain ⟨_, _, e, _⟩ := h3 h
        cases e
    obtain rfl : bs = [] := List.eq_nil_of_length_eq_zero h0
    refine ⟨w, ?_, ?_, grown_refl _ _⟩
    · simp [Builtin.copy_, run_underlying Try.underlying24, Builtin.lenOf, Builtin.firstCells, sizeOf, typeInfo, hi, storeCells, goInt]
    · simpa using hD
  · have hcells : ∀ j v, ((bs.take (64 - o)).map B)[j]? = some v → w.cell? (ad.add j) = some v := by
      intro j v hv
      have hj : j < min (64 - o) bs.length := by simpa using (List.getElem?_eq_some_iff.1 hv).1
      obtain ⟨b, o2, e, hc⟩ := h3 (by omega)
      injection e with e
      subst e
      rw [add_at, hc j (by omega), ← hv, List.getElem?_map, List.getElem?_take, if_pos (by omega), List.getD_eq_getElem?_getD, List.getElem?_eq_getElem (by omega)]
      rfl
    have hn : ((bs.take (64 - o)).map B).length = min (64 - o) bs.length := by simp
    have hdl := hD.size
    have hr := run_copy_row Try.prog w 24 24 ty 5 g (4 + o) (64 - o) c ad bs.length c2 (digC s xs nx ln).toArray 78 ((bs.take (64 - o)).map B) Try.underlying24 (by rw [hi]; simp [hs]) hD.heap
      (by rw [hn, Nat.min_comm]) hcells (by rw [hn]; simp; omega) (oneCell_B _)
    rw [hn] at hr
    refine ⟨_, hr, ⟨?_, ?_⟩, grown_setRow _ _ _⟩
    · rw [setRow_heap w g _ _ 78 _ hD.heap]
      congr 2
      rw [show (digC s xs nx ln).toArray.toList = digC s xs nx ln from rfl]
      have e1 : (digC s xs nx ln).take (4 + o) = U s.a :: U s.b :: U s.c :: U s.d :: (xs.take o).map B := by
        rw [Nat.add_comm]
        show U s.a :: U s.b :: U s.c :: U s.d :: (xs.map B ++ [Value.int .i64 (nx : Int), Value.int .u64 (ln : Int)]).take o = _
        rw [List.take_append_of_le_length (by rw [List.length_map]; omega), List.map_take]
      have e2 : (digC s xs nx ln).drop (4 + o + min (64 - o) bs.length) = (xs.drop (o + min (64 - o) bs.length)).map B ++ [Value.int .i64 (nx : Int), Value.int .u64 (ln : Int)] := by
        rw [Nat.add_assoc, Nat.add_comm]
        show (xs.map B ++ [Value.int .i64 (nx : Int), Value.int .u64 (ln : Int)]).drop (o + min (64 - o) bs.length) = _
        rw [List.drop_append_of_le_length (by rw [List.length_map]; omega), List.map_drop]
      rw [e1, e2]
      simp [digC]
    · simp
      omega
end Go.Proofs.Ytkjapcmnopnblaa
