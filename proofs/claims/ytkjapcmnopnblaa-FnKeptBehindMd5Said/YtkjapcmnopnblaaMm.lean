/- Memory as the contracts speak of it: a slice that reads as bytes; a digest's block; what a call leaves alone. -/
import Derived.Test.YtkjapcmnopnblaaBl
namespace Go.Proofs.Ytkjapcmnopnblaa
open Go.RowKit

/-- The slice value v reads as the bytes bs (an empty one may lie anywhere, or be nil). -/
def Reads (w : World) (v : Value) (bs : List UInt8) : Prop :=
  ∃ ad c, v = .slice ad bs.length c ∧ bs.length ≤ c ∧ c ≤ maxLen ∧
    (0 < bs.length → ∃ b o, ad = some ⟨b, o, none⟩ ∧ ∀ j, j < bs.length → w.cell? ⟨b, o + j, none⟩ = some (B (bs.getD j 0)))

theorem Reads.of_heap {w w' : World} {v : Value} {bs : List UInt8} (h : Reads w v bs) (hh : ∀ b, v.ownBlock = some b → b < w.heap.size → w'.heap[b]? = w.heap[b]?) : Reads w' v bs := by
  obtain ⟨ad, c, rfl, h1, h2, h3⟩ := h
  refine ⟨ad, c, rfl, h1, h2, fun h0 => ?_⟩
  obtain ⟨b, o, rfl, hc⟩ := h3 h0
  refine ⟨b, o, rfl, fun j hj => ?_⟩
  have hb := World.block_lt_of_cell? w _ (hc j hj)
  rw [World.cell?_of_block (w := w) (hh b rfl hb)]
  exact hc j hj
theorem Reads.below {w w' : World} {v : Value} {bs : List UInt8} (h : Reads w v bs) (hb : Below w.heap.size w w') : Reads w' v bs :=
  h.of_heap fun b _ hlt => hb.block b hlt
theorem Reads.dr {w w' : World} {v : Value} {bs : List UInt8} (h : Reads w v bs) (hb : Dr w w') : Reads w' v bs :=
  h.of_heap fun b _ hlt => by obtain ⟨n, rfl⟩ := hb; rfl
theorem Reads.grown {w w' : World} {v : Value} {bs : List UInt8} {g : Nat} (h : Reads w v bs) (hg : w.grownBy w' (some g)) (hne : v.ownBlock ≠ some g) : Reads w' v bs :=
  h.of_heap fun b hb hlt => hg.block b hlt (fun e => hne (hb.trans e))
theorem Reads.nil (w : World) : Reads w (.slice none 0 0) [] := ⟨none, 0, rfl, Nat.le_refl _, Nat.zero_le _, fun h => absurd h (Nat.lt_irrefl _)⟩
theorem Reads.length_le {w : World} {v : Value} {bs : List UInt8} (h : Reads w v bs) : bs.length ≤ maxLen := by
  obtain ⟨_, c, _, h1, h2, _⟩ := h
  omega

/-- The slice value v reads as the words ws. -/
def Words (w : World) (v : Value) (ws : List Md.W) : Prop :=
  ∃ ad c, v = .slice ad ws.length c ∧ ws.length ≤ c ∧ c ≤ maxLen ∧
    (0 < ws.length → ∃ b o, ad = some ⟨b, o, none⟩ ∧ ∀ j, j < ws.length → w.cell? ⟨b, o + j, none⟩ = some (U (ws.getD j 0)))
theorem Words.of_heap {w w' : World} {v : Value} {bs : List Md.W} (h : Words w v bs) (hh : ∀ b, v.ownBlock = some b → b < w.heap.size → w'.heap[b]? = w.heap[b]?) : Words w' v bs := by
  obtain ⟨ad, c, rfl, h1, h2, h3⟩ := h
  refine ⟨ad, c, rfl, h1, h2, fun h0 => ?_⟩
  obtain ⟨b, o, rfl, hc⟩ := h3 h0
  refine ⟨b, o, rfl, fun j hj => ?_⟩
  have hb := World.block_lt_of_cell? w _ (hc j hj)
  rw [World.cell?_of_block (w := w) (hh b rfl hb)]
  exact hc j hj
theorem Words.below {w w' : World} {v : Value} {bs : List Md.W} (h : Words w v bs) (hb : Below w.heap.size w w') : Words w' v bs :=
  h.of_heap fun b _ hlt => hb.block b hlt
theorem Words.dr {w w' : World} {v : Value} {bs : List Md.W} (h : Words w v bs) (hb : Dr w w') : Words w' v bs :=
  h.of_heap fun b _ hlt => by obtain ⟨n, rfl⟩ := hb; rfl
theorem Words.length_le {w : World} {v : Value} {bs : List Md.W} (h : Words w v bs) : bs.length ≤ maxLen := by
  obtain ⟨_, c, _, h1, h2, _⟩ := h
  omega

/-- The cells of a digest: four words, 64 bytes that wait, how many of them count, the length of all. -/
def digC (s : Md.St) (xs : List UInt8) (nx ln : Nat) : List Value :=
  U s.a :: U s.b :: U s.c :: U s.d :: (xs.map B ++ [.int .i64 (nx : Int), .int .u64 (ln : Int)])
/-- Block g is a digest. -/
structure Dig (w : World) (g : Nat) (s : Md.St) (xs : List UInt8) (nx ln : Nat) : Prop where
  heap : w.heap[g]? = some (.cells (digC s xs nx ln).toArray 78 (0, 0))
  len : xs.length = 64

theorem Dig.of_heap {w w' : World} {g : Nat} {s : Md.St} {xs : List UInt8} {nx ln : Nat} (h : Dig w g s xs nx ln) (hh : w'.heap[g]? = w.heap[g]?) : Dig w' g s xs nx ln :=
  ⟨hh.trans h.heap, h.len⟩
theorem Dig.lt {w : World} {g : Nat} {s : Md.St} {xs : List UInt8} {nx ln : Nat} (h : Dig w g s xs nx ln) : g < w.heap.size := (Array.getElem?_eq_some_iff.1 h.heap).1
theorem Dig.below {w w' : World} {g : Nat} {s : Md.St} {xs : List UInt8} {nx ln : Nat} (h : Dig w g s xs nx ln) (hb : Below w.heap.size w w') : Dig w' g s xs nx ln :=
  h.of_heap (hb.block g h.lt)
theorem Dig.dr {w w' : World} {g : Nat} {s : Md.St} {xs : List UInt8} {nx ln : Nat} (h : Dig w g s xs nx ln) (hb : Dr w w') : Dig w' g s xs nx ln := by
  obtain ⟨n, rfl⟩ := hb
  exact ⟨h.heap, h.len⟩
theorem Dig.cell {w : World} {g : Nat} {s : Md.St} {xs : List UInt8} {nx ln : Nat} (h : Dig w g s xs nx ln) (j : Nat) : w.cell? ⟨g, j, none⟩ = (digC s xs nx ln)[j]? := by
  simp [World.cell?, h.heap]
theorem Dig.free {w : World} {g : Nat} {s : Md.St} {xs : List UInt8} {nx ln : Nat} (h : Dig w g s xs nx ln) (j : Nat) : w.frozen? ⟨g, j, none⟩ = false := by
  simp [World.frozen?, h.heap]
theorem Dig.size {w : World} {g : Nat} {s : Md.St} {xs : List UInt8} {nx ln : Nat} (h : Dig w g s xs nx ln) : (digC s xs nx ln).length = 70 := by
  simp [digC, h.len]
theorem Dig.a {w : World} {g : Nat} {s : Md.St} {xs : List UInt8} {nx ln : Nat} (h : Dig w g s xs nx ln) : w.cell? ⟨g, 0, none⟩ = some (U s.a) := h.cell 0
theorem Dig.b {w : World} {g : Nat} {s : Md.St} {xs : List UInt8} {nx ln : Nat} (h : Dig w g s xs nx ln) : w.cell? ⟨g, 1, none⟩ = some (U s.b) := h.cell 1
theorem Dig.c {w : World} {g : Nat} {s : Md.St} {xs : List UInt8} {nx ln : Nat} (h : Dig w g s xs nx ln) : w.cell? ⟨g, 2, none⟩ = some (U s.c) := h.cell 2
theorem Dig.d {w : World} {g : Nat} {s : Md.St} {xs : List UInt8} {nx ln : Nat} (h : Dig w g s xs nx ln) : w.cell? ⟨g, 3, none⟩ = some (U s.d) := h.cell 3
theorem Dig.x {w : World} {g : Nat} {s : Md.St} {xs : List UInt8} {nx ln : Nat} (h : Dig w g s xs nx ln) (j : Nat) (hj : j < 64) : w.cell? ⟨g, 4 + j, none⟩ = some (B (xs.getD j 0)) := by
  rw [h.cell, Nat.add_comm]
  have hl := h.len
  have e : (digC s xs nx ln)[j + 4]? = (xs.map B ++ [.int .i64 (nx : Int), .int .u64 (ln : Int)])[j]? := rfl
  rw [e, List.getElem?_append_left (by simp; omega), List.getElem?_map, List.getD_eq_getElem?_getD, List.getElem?_eq_getElem (by omega)]
  rfl
theorem Dig.nx {w : World} {g : Nat} {s : Md.St} {xs : List UInt8} {nx ln : Nat} (h : Dig w g s xs nx ln) : w.cell? ⟨g, 68, none⟩ = some (.int .i64 (nx : Int)) := by
  rw [h.cell]
  have hl := h.len
  have e : (digC s xs nx ln)[68]? = (xs.map B ++ [.int .i64 (nx : Int), .int .u64 (ln : Int)])[64]? := rfl
  rw [e, List.getElem?_append_right (by simp; omega)]
  simp [hl]
theorem Dig.ln {w : World} {g : Nat} {s : Md.St} {xs : List UInt8} {nx ln : Nat} (h : Dig w g s xs nx ln) : w.cell? ⟨g, 69, none⟩ = some (.int .u64 (ln : Int)) := by
  rw [h.cell]
  have hl := h.len
  have e : (digC s xs nx ln)[69]? = (xs.map B ++ [.int .i64 (nx : Int), .int .u64 (ln : Int)])[65]? := rfl
  rw [e, List.getElem?_append_right (by simp; omega)]
  simp [hl]

/-! ### A store into a block that is known whole -/
theorem heap_setCell_same {w : World} {g i : Nat} {C : Array Value} {t : TypeId} {fr : Nat × Nat} (h : w.heap[g]? = some (.cells C t fr)) (v : Value) :
    (w.setCell ⟨g, i, none⟩ v).heap[g]? = some (.cells (C.setIfInBounds i v) t fr) := by
  simp [World.setCell, Array.getElem?_modify, h]
theorem heap_setCell_ne {w : World} {g i k : Nat} (v : Value) (hk : k ≠ g) : (w.setCell ⟨g, i, none⟩ v).heap[k]? = w.heap[k]? := by
  simp [World.setCell, Array.getElem?_modify, Ne.symm hk]

/-- What a call leaves alone: all blocks but g. -/
theorem grown_refl (w : World) (g : Nat) : w.grownBy w (some g) := ⟨rfl, rfl, rfl, Nat.le_refl _, fun _ _ _ => rfl⟩
theorem grown_trans {a b c : World} {g : Nat} (h : a.grownBy b (some g)) (k : b.grownBy c (some g)) : a.grownBy c (some g) :=
  ⟨k.os.trans h.os, k.tape.trans h.tape, k.output.trans h.output, Nat.le_trans h.size k.size, fun i hi hne => (k.block i (Nat.lt_of_lt_of_le hi h.size) hne).trans (h.block i hi hne)⟩
theorem grown_dr {a b : World} {g : Nat} (h : Dr a b) : a.grownBy b (some g) := by
  obtain ⟨n, rfl⟩ := h
  exact ⟨rfl, rfl, rfl, Nat.le_refl _, fun _ _ _ => rfl⟩
theorem grown_below {a b : World} {g : Nat} (h : Below a.heap.size a b) : a.grownBy b (some g) :=
  ⟨h.os, h.tape, h.output, h.size, fun i hi _ => h.block i hi⟩
theorem grown_setCell (a : World) (g i : Nat) (v : Value) : a.grownBy (a.setCell ⟨g, i, none⟩ v) (some g) :=
  ⟨rfl, rfl, rfl, by simp, fun k _ hk => heap_setCell_ne v (fun e => hk (by rw [e]))⟩
theorem below_dr {a b : World} {n : Nat} (h : Dr a b) : Below n a b := by
  obtain ⟨n, rfl⟩ := h
  exact ⟨rfl, rfl, rfl, Nat.le_refl _, fun _ _ => rfl⟩
theorem below_of_grown {a b c : World} {g : Nat} (h : Below a.heap.size a b) (k : b.grownBy c (some g)) (hg : a.heap.size ≤ g) : Below a.heap.size a c :=
  h.grown k h.size (fun i hi => by injection hi with hi; omega)

end Go.Proofs.Ytkjapcmnopnblaa
