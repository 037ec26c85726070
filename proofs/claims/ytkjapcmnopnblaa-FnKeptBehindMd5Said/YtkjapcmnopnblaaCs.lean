/- checkSum: the hash of a digest. -/
import Derived.Test.YtkjapcmnopnblaaPu
namespace Go.Proofs.Ytkjapcmnopnblaa
open Go.RowKit
set_option linter.unusedVariables false

/-- An array of bytes as a value. -/
def aggB (bs : List UInt8) : Value := .agg (bs.map B).toArray
def Z16 : Array Value := ((List.replicate 16 (0 : UInt8)).map B).toArray
def Z72 : Array Value := ((List.replicate 72 (0 : UInt8)).map B).toArray
theorem Z16_size : Z16.size = 16 := by rfl
theorem Z72_size : Z72.size = 72 := by rfl
theorem zero65 (w : World) : (zeroValue 65).run Try.prog w = .ok (.agg Z16) w := by kernel_rfl
theorem zero90 (w : World) : (zeroValue 90).run Try.prog w = .ok (.agg Z72) w := by kernel_rfl

theorem heap_setCells {g : Nat} {t : TypeId} {fr : Nat × Nat} : ∀ (vs : List Value) (o : Nat) (C : List Value) (w : World), w.heap[g]? = some (.cells C.toArray t fr) → o + vs.length ≤ C.length →
    (w.setCells g o vs).heap[g]? = some (.cells (C.take o ++ (vs ++ C.drop (o + vs.length))).toArray t fr)
  | [], o, C, w, h, _ => by
    simp only [World.setCells, List.length_nil, Nat.add_zero, List.nil_append, List.take_append_drop]
    exact h
  | v :: r, o, C, w, h, hl => by
    rw [List.length_cons] at hl
    have h1 : (w.setCell ⟨g, o, none⟩ v).heap[g]? = some (.cells (C.set o v).toArray t fr) := by
      rw [heap_setCell_same h, List.setIfInBounds_toArray]
    have ih := heap_setCells r (o + 1) (C.set o v) _ h1 (by rw [List.length_set]; omega)
    have e1 : (C.set o v).take (o + 1) = C.take o ++ [v] := by
      rw [List.take_add_one, List.getElem?_set_self (by omega), List.take_set_of_le (by omega)]
      rfl
    have e2 : (C.set o v).drop (o + 1 + r.length) = C.drop (o + (v :: r).length) := by
      rw [List.drop_set_of_lt (by omega), List.length_cons]
      congr 1
      omega
    rw [e1, e2] at ih
    refine ih.trans ?_
    simp
theorem row_store {w : World} {g : Nat} {t : TypeId} {bs : List UInt8} (h : Row w g t bs) (cs : List UInt8) (hl : cs.length = bs.length) : Row (w.setCells g 0 (cs.map B)) g t cs := by
  unfold Row
  rw [heap_setCells (cs.map B) 0 (bs.map B) w h (by simp; omega)]
  simp [hl]
theorem row_there {w : World} {g : Nat} {t : TypeId} {bs : List UInt8} (h : Row w g t bs) : w.there g 0 bs.length := by
  intro j hj
  rw [Nat.zero_add]
  exact ⟨by rw [h.cell j hj]; rfl, h.free j⟩
theorem row_range {w : World} {g : Nat} {t : TypeId} {bs : List UInt8} (h : Row w g t bs) : w.rangeAt g 0 (bs.map B) := by
  intro j v hv
  have hj : j < bs.length := by simpa using (List.getElem?_eq_some_iff.1 hv).1
  rw [Nat.zero_add, h.cell j hj, ← hv, List.getElem?_map, List.getD_eq_getElem?_getD, List.getElem?_eq_getElem hj]
  rfl
theorem stand_store {P : Program} {ops : Array Oper} {Q : Exit → Act → World → Prop} {a : Act} {w : World} {rest : List Oper} {d : Option Tmp} {t : TypeId} {x y : Operand} {ty : TypeId} {pos : String} {af : Array Edge} {gd : Option (Nat × Bool)}
    (h : Stand (wpList P ops Q ({ dst := d, op := .store t x y, type := ty, pos := pos, after := af, guard := gd } :: rest) a w)) :
    wpList P ops Q ({ dst := d, op := .store t x y, type := ty, pos := pos, after := af, guard := gd } :: rest) a w := by
  unfold Stand at h; exact h

noncomputable def code52 : Code := match Try.f52.body with | some c => c | none => .ret


/-- checkSum's frame once the last array is laid. -/
structure Fr52 (a : Act) (g n c : Nat) : Prop where
  size : a.tmps.size = 63
  defers : a.defers = []
  e0 : a.eval (.tmp 0) = .pointer (some ⟨g, 0, none⟩)
  e2 : a.eval (.tmp 2) = .pointer (some ⟨n, 0, none⟩)
  e5 : a.eval (.tmp 5) = .pointer (some ⟨c, 0, none⟩)
theorem run_sl65 (g l : Nat) (hl : l < 16) (w : World) : (Instr.sliceAt 65 (.pointer (some ⟨g, 0, none⟩)) (some (.int .i64 (l : Int))) none none).run Try.prog w = .ok (.slice (some ⟨g, l, none⟩) (16 - l) (16 - l)) w := by
  have q : (l : Int) ≤ 16 := by omega
  have h : ¬ 16 = l := by omega
  simp [go_sem, q, h]
theorem e_sl65 {a : Act} {d : Option Tmp} {x : Operand} {ty : TypeId} {pos : String} {af : Array Edge} {g : Nat} {k : Int} (l : Nat) (hk : k = (l : Int)) (hl : l < 16) (hx : a.eval x = .pointer (some ⟨g, 0, none⟩)) (w : World) :
    (execOp a.eval { dst := d, op := .slice 65 x (some (.const (.int .i64 k))) none none, type := ty, pos := pos, after := af, guard := none }).run Try.prog w = .ok (.value (.slice (some ⟨g, l, none⟩) (16 - l) (16 - l))) w := by
  subst hk
  simp only [execOp, hx, eval_const, Option.map_some, Option.map_none, Sem.run_bind, run_sl65 g l hl, Result.andThen_ok, Sem.run_pure]
theorem hb60 : Try.f60.body.isNone = false := by kernel_rfl
theorem hn60 : (Try.f60.name == "runtime.NumGoroutine") = false := by kernel_rfl
/-- The values of the regions 8 to 11. -/
def V52 (g c k : Nat) (x : Md.W) (j : Nat) (v : Value) (_ : World) : Prop :=
  match j with
  | 0 => v = .slice (some ⟨c, 4 * k, none⟩) (16 - 4 * k) (16 - 4 * k)
  | 4 => v = .pointer (some ⟨g, k, none⟩)
  | 5 => v = U x
  | _ => v = .pointer (some ⟨g, 0, none⟩)
noncomputable def rest52 : Code := seqR (seqR (seqR (seqR (seqR (seqR (seqR code52))))))

set_option maxHeartbeats 2000000 in
theorem cs_put0 {g n c ln nx : Nat} {s : Md.St} {xs bs : List UInt8} {w : World} {a : Act} {Q : Exit → Act → World → Prop} (hF : Fr52 a g n c) (hD : Dig w g s xs nx ln) (hR : Row w c 65 bs) (hb : bs.length = 16) (hgc : g ≠ c)
    (H : ∀ a' w', Fr52 a' g n c → Dig w' g s xs nx ln → Row w' c 65 (setL (4 * 0) (Md.lo32 s.a) bs) → w.grownBy w' (some c) → Q .normal a' w') : (seqL rest52).wp Try.prog Q a w := by
  obtain ⟨hs, hd, e0, e2, e5⟩ := hF
  have L : w.cell? ⟨g, 0, none⟩ = some (U s.a) := hD.a
  conv => arg 2; whnf
  refine wp_region_mono 6 Dr (V52 g c 0 s.a) hm (by kernel_rfl) 63 hs (by kernel_rfl) Dr.refl (fun _ _ _ => Dr.trans) (fun _ _ _ _ h _ => h) ?_ ?_
  · refine ⟨?_, ?_, ?_, ?_, ?_, ?_, trivial⟩
    · intro a w1 hs hd hr h1 h2
      exact m_val rfl rfl (e_sl65 0 rfl (by omega) ((h1 5 (by kernel_rfl)).trans e5) w1) rfl (Dr.refl _) rfl
    · intro a w1 hs hd hr h1 h2
      exact m_val rfl rfl (e_move ((h1 0 (by kernel_rfl)).trans e0) w1) rfl (Dr.refl _) rfl
    · intro a w1 hs hd hr h1 h2
      exact m_val rfl rfl (e_nil (h2 1 35 (by kernel_rfl)) w1) rfl (Dr.refl _) rfl
    · intro a w1 hs hd hr h1 h2
      exact m_val rfl rfl (e_fa0 (h2 2 36 (by kernel_rfl)) w1) rfl (Dr.refl _) rfl
    · intro a w1 hs hd hr h1 h2
      exact m_val rfl rfl (e_ia 0 rfl (by omega) (h2 3 37 (by kernel_rfl)) w1) rfl (Dr.refl _) rfl
    · intro a w1 hs hd hr h1 h2
      exact m_val rfl rfl (e_ld58 (h2 4 38 (by kernel_rfl)) w1 ((hr.cell _).trans L)) rfl (Dr.refl _) rfl
  · intro a w1 hs1 hd1 hr h1 h2
    have hdr : Dr w w1 := Dr.trans ⟨1, rfl⟩ hr
    have v0 := h2 0 34 (by kernel_rfl)
    have v5 := h2 5 39 (by kernel_rfl)
    simp only [V52] at v0 v5
    refine s_call Try.func60 hb60 hn60 #[.slice (some ⟨c, 4 * 0, none⟩) (16 - 4 * 0) (16 - 4 * 0), U s.a] (by simp only [List.map_toArray, List.map_cons, List.map_nil, v0, v5]) ?_
    refine (put32_any c (4 * 0) _ _ 65 bs s.a w1 (hR.dr hdr) (by omega) (by omega)).mono ?_
    rintro e w2 ⟨rfl, r2, g2⟩
    refine ⟨_, rfl, wpList_nil (H _ _ ⟨?_, ?_, ?_, ?_, ?_⟩ ((hD.dr hdr).of_heap (g2.block g (hD.dr hdr).lt (fun e => hgc (by injection e)))) r2 (grown_trans (grown_dr hdr) g2))⟩
    · simp only [size_put]; exact hs1.trans hs
    · simp only [defers_put]; exact hd1.trans hd
    · exact (eval_put_other _ _ _ _ (by omega)).trans ((h1 0 (by kernel_rfl)).trans e0)
    · exact (eval_put_other _ _ _ _ (by omega)).trans ((h1 2 (by kernel_rfl)).trans e2)
    · exact (eval_put_other _ _ _ _ (by omega)).trans ((h1 5 (by kernel_rfl)).trans e5)

set_option maxHeartbeats 2000000 in
theorem cs_put1 {g n c ln nx : Nat} {s : Md.St} {xs bs : List UInt8} {w : World} {a : Act} {Q : Exit → Act → World → Prop} (hF : Fr52 a g n c) (hD : Dig w g s xs nx ln) (hR : Row w c 65 bs) (hb : bs.length = 16) (hgc : g ≠ c)
    (H : ∀ a' w', Fr52 a' g n c → Dig w' g s xs nx ln → Row w' c 65 (setL (4 * 1) (Md.lo32 s.b) bs) → w.grownBy w' (some c) → Q .normal a' w') : (seqL (seqR rest52)).wp Try.prog Q a w := by
  obtain ⟨hs, hd, e0, e2, e5⟩ := hF
  have L : w.cell? ⟨g, 1, none⟩ = some (U s.b) := hD.b
  conv => arg 2; whnf
  refine wp_region_mono 6 Dr (V52 g c 1 s.b) hm (by kernel_rfl) 63 hs (by kernel_rfl) Dr.refl (fun _ _ _ => Dr.trans) (fun _ _ _ _ h _ => h) ?_ ?_
  · refine ⟨?_, ?_, ?_, ?_, ?_, ?_, trivial⟩
    · intro a w1 hs hd hr h1 h2
      exact m_val rfl rfl (e_sl65 4 rfl (by omega) ((h1 5 (by kernel_rfl)).trans e5) w1) rfl (Dr.refl _) rfl
    · intro a w1 hs hd hr h1 h2
      exact m_val rfl rfl (e_move ((h1 0 (by kernel_rfl)).trans e0) w1) rfl (Dr.refl _) rfl
    · intro a w1 hs hd hr h1 h2
      exact m_val rfl rfl (e_nil (h2 1 42 (by kernel_rfl)) w1) rfl (Dr.refl _) rfl
    · intro a w1 hs hd hr h1 h2
      exact m_val rfl rfl (e_fa0 (h2 2 43 (by kernel_rfl)) w1) rfl (Dr.refl _) rfl
    · intro a w1 hs hd hr h1 h2
      exact m_val rfl rfl (e_ia 1 rfl (by omega) (h2 3 44 (by kernel_rfl)) w1) rfl (Dr.refl _) rfl
    · intro a w1 hs hd hr h1 h2
      exact m_val rfl rfl (e_ld58 (h2 4 45 (by kernel_rfl)) w1 ((hr.cell _).trans L)) rfl (Dr.refl _) rfl
  · intro a w1 hs1 hd1 hr h1 h2
    have hdr : Dr w w1 := Dr.trans ⟨1, rfl⟩ hr
    have v0 := h2 0 41 (by kernel_rfl)
    have v5 := h2 5 46 (by kernel_rfl)
    simp only [V52] at v0 v5
    refine s_call Try.func60 hb60 hn60 #[.slice (some ⟨c, 4 * 1, none⟩) (16 - 4 * 1) (16 - 4 * 1), U s.b] (by simp only [List.map_toArray, List.map_cons, List.map_nil, v0, v5]) ?_
    refine (put32_any c (4 * 1) _ _ 65 bs s.b w1 (hR.dr hdr) (by omega) (by omega)).mono ?_
    rintro e w2 ⟨rfl, r2, g2⟩
    refine ⟨_, rfl, wpList_nil (H _ _ ⟨?_, ?_, ?_, ?_, ?_⟩ ((hD.dr hdr).of_heap (g2.block g (hD.dr hdr).lt (fun e => hgc (by injection e)))) r2 (grown_trans (grown_dr hdr) g2))⟩
    · simp only [size_put]; exact hs1.trans hs
    · simp only [defers_put]; exact hd1.trans hd
    · exact (eval_put_other _ _ _ _ (by omega)).trans ((h1 0 (by kernel_rfl)).trans e0)
    · exact (eval_put_other _ _ _ _ (by omega)).trans ((h1 2 (by kernel_rfl)).trans e2)
    · exact (eval_put_other _ _ _ _ (by omega)).trans ((h1 5 (by kernel_rfl)).trans e5)

set_option maxHeartbeats 2000000 in
theorem cs_put2 {g n c ln nx : Nat} {s : Md.St} {xs bs : List UInt8} {w : World} {a : Act} {Q : Exit → Act → World → Prop} (hF : Fr52 a g n c) (hD : Dig w g s xs nx ln) (hR : Row w c 65 bs) (hb : bs.length = 16) (hgc : g ≠ c)
    (H : ∀ a' w', Fr52 a' g n c → Dig w' g s xs nx ln → Row w' c 65 (setL (4 * 2) (Md.lo32 s.c) bs) → w.grownBy w' (some c) → Q .normal a' w') : (seqL (seqR (seqR rest52))).wp Try.prog Q a w := by
  obtain ⟨hs, hd, e0, e2, e5⟩ := hF
  have L : w.cell? ⟨g, 2, none⟩ = some (U s.c) := hD.c
  conv => arg 2; whnf
  refine wp_region_mono 6 Dr (V52 g c 2 s.c) hm (by kernel_rfl) 63 hs (by kernel_rfl) Dr.refl (fun _ _ _ => Dr.trans) (fun _ _ _ _ h _ => h) ?_ ?_
  · refine ⟨?_, ?_, ?_, ?_, ?_, ?_, trivial⟩
    · intro a w1 hs hd hr h1 h2
      exact m_val rfl rfl (e_sl65 8 rfl (by omega) ((h1 5 (by kernel_rfl)).trans e5) w1) rfl (Dr.refl _) rfl
    · intro a w1 hs hd hr h1 h2
      exact m_val rfl rfl (e_move ((h1 0 (by kernel_rfl)).trans e0) w1) rfl (Dr.refl _) rfl
    · intro a w1 hs hd hr h1 h2
      exact m_val rfl rfl (e_nil (h2 1 49 (by kernel_rfl)) w1) rfl (Dr.refl _) rfl
    · intro a w1 hs hd hr h1 h2
      exact m_val rfl rfl (e_fa0 (h2 2 50 (by kernel_rfl)) w1) rfl (Dr.refl _) rfl
    · intro a w1 hs hd hr h1 h2
      exact m_val rfl rfl (e_ia 2 rfl (by omega) (h2 3 51 (by kernel_rfl)) w1) rfl (Dr.refl _) rfl
    · intro a w1 hs hd hr h1 h2
      exact m_val rfl rfl (e_ld58 (h2 4 52 (by kernel_rfl)) w1 ((hr.cell _).trans L)) rfl (Dr.refl _) rfl
  · intro a w1 hs1 hd1 hr h1 h2
    have hdr : Dr w w1 := Dr.trans ⟨1, rfl⟩ hr
    have v0 := h2 0 48 (by kernel_rfl)
    have v5 := h2 5 53 (by kernel_rfl)
    simp only [V52] at v0 v5
    refine s_call Try.func60 hb60 hn60 #[.slice (some ⟨c, 4 * 2, none⟩) (16 - 4 * 2) (16 - 4 * 2), U s.c] (by simp only [List.map_toArray, List.map_cons, List.map_nil, v0, v5]) ?_
    refine (put32_any c (4 * 2) _ _ 65 bs s.c w1 (hR.dr hdr) (by omega) (by omega)).mono ?_
    rintro e w2 ⟨rfl, r2, g2⟩
    refine ⟨_, rfl, wpList_nil (H _ _ ⟨?_, ?_, ?_, ?_, ?_⟩ ((hD.dr hdr).of_heap (g2.block g (hD.dr hdr).lt (fun e => hgc (by injection e)))) r2 (grown_trans (grown_dr hdr) g2))⟩
    · simp only [size_put]; exact hs1.trans hs
    · simp only [defers_put]; exact hd1.trans hd
    · exact (eval_put_other _ _ _ _ (by omega)).trans ((h1 0 (by kernel_rfl)).trans e0)
    · exact (eval_put_other _ _ _ _ (by omega)).trans ((h1 2 (by kernel_rfl)).trans e2)
    · exact (eval_put_other _ _ _ _ (by omega)).trans ((h1 5 (by kernel_rfl)).trans e5)

set_option maxHeartbeats 2000000 in
theorem cs_put3 {g n c ln nx : Nat} {s : Md.St} {xs bs : List UInt8} {w : World} {a : Act} {Q : Exit → Act → World → Prop} (hF : Fr52 a g n c) (hD : Dig w g s xs nx ln) (hR : Row w c 65 bs) (hb : bs.length = 16) (hgc : g ≠ c)
    (H : ∀ a' w', Fr52 a' g n c → Dig w' g s xs nx ln → Row w' c 65 (setL (4 * 3) (Md.lo32 s.d) bs) → w.grownBy w' (some c) → Q .normal a' w') : (seqL (seqR (seqR (seqR rest52)))).wp Try.prog Q a w := by
  obtain ⟨hs, hd, e0, e2, e5⟩ := hF
  have L : w.cell? ⟨g, 3, none⟩ = some (U s.d) := hD.d
  conv => arg 2; whnf
  refine wp_region_mono 6 Dr (V52 g c 3 s.d) hm (by kernel_rfl) 63 hs (by kernel_rfl) Dr.refl (fun _ _ _ => Dr.trans) (fun _ _ _ _ h _ => h) ?_ ?_
  · refine ⟨?_, ?_, ?_, ?_, ?_, ?_, trivial⟩
    · intro a w1 hs hd hr h1 h2
      exact m_val rfl rfl (e_sl65 12 rfl (by omega) ((h1 5 (by kernel_rfl)).trans e5) w1) rfl (Dr.refl _) rfl
    · intro a w1 hs hd hr h1 h2
      exact m_val rfl rfl (e_move ((h1 0 (by kernel_rfl)).trans e0) w1) rfl (Dr.refl _) rfl
    · intro a w1 hs hd hr h1 h2
      exact m_val rfl rfl (e_nil (h2 1 56 (by kernel_rfl)) w1) rfl (Dr.refl _) rfl
    · intro a w1 hs hd hr h1 h2
      exact m_val rfl rfl (e_fa0 (h2 2 57 (by kernel_rfl)) w1) rfl (Dr.refl _) rfl
    · intro a w1 hs hd hr h1 h2
      exact m_val rfl rfl (e_ia 3 rfl (by omega) (h2 3 58 (by kernel_rfl)) w1) rfl (Dr.refl _) rfl
    · intro a w1 hs hd hr h1 h2
      exact m_val rfl rfl (e_ld58 (h2 4 59 (by kernel_rfl)) w1 ((hr.cell _).trans L)) rfl (Dr.refl _) rfl
  · intro a w1 hs1 hd1 hr h1 h2
    have hdr : Dr w w1 := Dr.trans ⟨1, rfl⟩ hr
    have v0 := h2 0 55 (by kernel_rfl)
    have v5 := h2 5 60 (by kernel_rfl)
    simp only [V52] at v0 v5
    refine s_call Try.func60 hb60 hn60 #[.slice (some ⟨c, 4 * 3, none⟩) (16 - 4 * 3) (16 - 4 * 3), U s.d] (by simp only [List.map_toArray, List.map_cons, List.map_nil, v0, v5]) ?_
    refine (put32_any c (4 * 3) _ _ 65 bs s.d w1 (hR.dr hdr) (by omega) (by omega)).mono ?_
    rintro e w2 ⟨rfl, r2, g2⟩
    refine ⟨_, rfl, wpList_nil (H _ _ ⟨?_, ?_, ?_, ?_, ?_⟩ ((hD.dr hdr).of_heap (g2.block g (hD.dr hdr).lt (fun e => hgc (by injection e)))) r2 (grown_trans (grown_dr hdr) g2))⟩
    · simp only [size_put]; exact hs1.trans hs
    · simp only [defers_put]; exact hd1.trans hd
    · exact (eval_put_other _ _ _ _ (by omega)).trans ((h1 0 (by kernel_rfl)).trans e0)
    · exact (eval_put_other _ _ _ _ (by omega)).trans ((h1 2 (by kernel_rfl)).trans e2)
    · exact (eval_put_other _ _ _ _ (by omega)).trans ((h1 5 (by kernel_rfl)).trans e5)


theorem grown_new {a b c : World} {g n : Nat} (h : a.grownBy b (some g)) (k : b.grownBy c (some n)) (hn : a.heap.size ≤ n) : a.grownBy c (some g) :=
  ⟨k.os.trans h.os, k.tape.trans h.tape, k.output.trans h.output, Nat.le_trans h.size k.size, fun i hi hne => (k.block i (Nat.lt_of_lt_of_le hi h.size) (fun e => by injection e with e; omega)).trans (h.block i hi hne)⟩
theorem grown_alloc {a b : World} {g : Nat} (h : a.grownBy b (some g)) (o : Obj) : a.grownBy (b.alloc o) (some g) :=
  grown_trans h (grown_below ((Below.refl _ _).alloc (Nat.le_refl _) o))

theorem run_ld65 {w : World} {c : Nat} {bs : List UInt8} (h : Row w c 65 bs) (hl : bs.length = 16) : (Instr.loadAt 65 (.pointer (some ⟨c, 0, none⟩))).run Try.prog w = .ok (aggB bs) w :=
  run_loadAt_mid w c 0 65 (bs.map B) _ (row_range h) Try.underlying65 rfl (by rw [List.length_map, hl]; kernel_rfl)

set_option maxHeartbeats 2000000 in
theorem cs_end {g n c : Nat} {D Z : List UInt8} {w0 w : World} {a : Act} (hF : Fr52 a g n c) (hR : Row w c 65 D) (hl : D.length = 16) (hZ : Row w n 65 Z) (hzl : Z.length = 16) (hg : w0.grownBy w (some g)) (hn : w0.heap.size ≤ n) :
    (seqR (seqR (seqR (seqR rest52)))).wp Try.prog (bodyPost Try.prog Try.f52 fun e w' => e = .returned (aggB D) ∧ w0.grownBy w' (some g)) a w := by
  obtain ⟨hs, hd, e0, e2, e5⟩ := hF
  conv => arg 2; whnf
  refine wp_seq (wp_region_lit ?_)
  refine s_run (v := aggB D) (w' := w) rfl (by simp only [execOp, e5, Sem.run_bind, run_ld65 hR hl, Result.andThen_ok, Sem.run_pure]) ?_
  refine wpList_store_mid rfl 65 (.tmp 2) (.tmp 62) rfl n 0 (D.map B).toArray ((eval_put_other _ _ _ _ (by omega)).trans e2) (eval_put_same _ _ _ (by omega)) (by
      have h := row_there hZ
      rw [hzl] at h
      simpa [hl] using h) (by simp only [List.size_toArray, List.length_map, hl]; kernel_rfl) (all_oneCell_toArray (oneCell_B D)) ?_
  have r2 : Row (w.setCells n 0 (D.map B)) n 65 D := row_store hZ D (by rw [hl, hzl])
  refine wpList_nil (show Code.wp Try.prog _ _ _ _ from wp_ret ?_)
  refine bodyPost_ret (v := aggB D) ?_ (by simp only [put_none, defers_put]; exact hd) ⟨rfl, ?_⟩
  · refine results_cell (t := 2) (ty := 65) rfl _ _ _ ⟨n, 0, none⟩ ?_ ?_
    · exact (eval_put_other _ _ _ _ (by omega)).trans e2
    · exact run_loadVar_mid _ n 0 65 (D.map B) _ (row_range r2) Try.underlying65 rfl (by rw [List.length_map, hl]; kernel_rfl)
  · exact grown_new hg (grown_setCells n _ 0 w) hn

theorem stand_sliceT (t : TypeId) {P : Program} {ops : Array Oper} {Q : Exit → Act → World → Prop} {a : Act} {w : World} {rest : List Oper} {d : Option Tmp} {x : Operand} {lo hi mx : Option Operand} {ty : TypeId} {pos : String} {af : Array Edge} {gd : Option (Nat × Bool)}
    (h : Stand (wpList P ops Q ({ dst := d, op := .slice t x lo hi mx, type := ty, pos := pos, after := af, guard := gd } :: rest) a w)) :
    wpList P ops Q ({ dst := d, op := .slice t x lo hi mx, type := ty, pos := pos, after := af, guard := gd } :: rest) a w := by
  unfold Stand at h; exact h
theorem run_sl90h (g l : Nat) (hl : l ≤ 72) (w : World) : (Instr.sliceAt 90 (.pointer (some ⟨g, 0, none⟩)) none (some (.int .u64 (l : Int))) none).run Try.prog w = .ok (.slice (some ⟨g, 0, none⟩) l 72) w := by
  have q : (l : Int) ≤ 72 := by omega
  simp [go_sem, q]
theorem run_sl90l (g l : Nat) (hl : l < 72) (w : World) : (Instr.sliceAt 90 (.pointer (some ⟨g, 0, none⟩)) (some (.int .u64 (l : Int))) none none).run Try.prog w = .ok (.slice (some ⟨g, l, none⟩) (72 - l) (72 - l)) w := by
  have q : (l : Int) ≤ 72 := by omega
  have h : ¬ 72 = l := by omega
  simp [go_sem, q, h]
theorem e_sl90h {a : Act} {d : Option Tmp} {x y : Operand} {ty : TypeId} {pos : String} {af : Array Edge} {g : Nat} (l : Nat) (hl : l ≤ 72) (hx : a.eval x = .pointer (some ⟨g, 0, none⟩)) (hy : a.eval y = .int .u64 (l : Int)) (w : World) :
    (execOp a.eval { dst := d, op := .slice 90 x none (some y) none, type := ty, pos := pos, after := af, guard := none }).run Try.prog w = .ok (.value (.slice (some ⟨g, 0, none⟩) l 72)) w := by
  simp only [execOp, hx, hy, Option.map_some, Option.map_none, Sem.run_bind, run_sl90h g l hl, Result.andThen_ok, Sem.run_pure]
theorem e_sl90l {a : Act} {d : Option Tmp} {x y : Operand} {ty : TypeId} {pos : String} {af : Array Edge} {g : Nat} (l : Nat) (hl : l < 72) (hx : a.eval x = .pointer (some ⟨g, 0, none⟩)) (hy : a.eval y = .int .u64 (l : Int)) (w : World) :
    (execOp a.eval { dst := d, op := .slice 90 x (some y) none none, type := ty, pos := pos, after := af, guard := none }).run Try.prog w = .ok (.value (.slice (some ⟨g, l, none⟩) (72 - l) (72 - l))) w := by
  simp only [execOp, hx, hy, Option.map_some, Option.map_none, Sem.run_bind, run_sl90l g l hl, Result.andThen_ok, Sem.run_pure]
noncomputable def mid52 : Code := seqR (seqR (seqR (seqR code52)))

set_option maxRecDepth 100000 in
set_option maxHeartbeats 4000000 in
theorem cs_mid {g n t p : Nat} {m T Z : List UInt8} {w0 w : World} {a : Act} (hs : a.tmps.size = 63) (hd : a.defers = []) (e0 : a.eval (.tmp 0) = .pointer (some ⟨g, 0, none⟩)) (e2 : a.eval (.tmp 2) = .pointer (some ⟨n, 0, none⟩))
    (e3 : a.eval (.tmp 3) = .pointer (some ⟨t, 0, none⟩)) (e4 : a.eval (.tmp 4) = .int .u64 (p : Int)) (hp : p = Md.padz m.length) (hRep : Rep w g m) (hT : Row w t 90 T) (hTl : T.length = 72) (hTp : T.take (p + 9) = Md.pad m.length)
    (hZ : Row w n 65 Z) (hzl : Z.length = 16) (hg : w0.grownBy w (some g)) (hgn : g < n) (hgt : g < t) (hn : w0.heap.size ≤ n) (hlm : m.length ≤ 288230376151711744) :
    mid52.wp Try.prog (bodyPost Try.prog Try.f52 fun e w' => e = .returned (aggB (Md.md5 m)) ∧ w0.grownBy w' (some g)) a w := by
  revert e0 e2 e3 e4
  refine open63 (fun a => a.eval (.tmp 0) = .pointer (some ⟨g, 0, none⟩) → a.eval (.tmp 2) = .pointer (some ⟨n, 0, none⟩) → a.eval (.tmp 3) = .pointer (some ⟨t, 0, none⟩) → a.eval (.tmp 4) = .int .u64 (p : Int) →
    mid52.wp Try.prog (bodyPost Try.prog Try.f52 fun e w' => e = .returned (aggB (Md.md5 m)) ∧ w0.grownBy w' (some g)) a w) ?_ a hs hd
  intro u0 u1 u2 u3 u4
  intros
  rename_i e0 e2 e3 e4
  have f0 : u0 = _ := e0
  clear e0
  have f2 : u2 = _ := e2
  clear e2
  have f3 : u3 = _ := e3
  clear e3
  have f4 : u4 = _ := e4
  clear e4
  subst f0 f2 f3 f4
  have hp2 : p ≤ 63 := by rw [hp]; unfold Md.padz; omega
  have q1 : (p : Int) ≤ 63 := by omega
  have q3 : (1 : Int) + (p : Int) + 8 ≤ 72 := by omega
  have hz := zero65
  have hz2 := Z16_size
  have hreads : Reads w (.slice (some ⟨t, 0, none⟩) (p + 9) 72) (Md.pad m.length) := by
    have h := hT.reads 0 (p + 9) 72 (by omega) (by omega) (by unfold maxLen; omega)
    rw [List.drop_zero, hTp] at h
    exact h
  have hpl : (Md.pad m.length).length = p + 9 := by rw [Md.pad_length, hp]
  have H1 := Lib.hid hp
  have H2 := Lib.hid hRep
  have H3 := Lib.hid hT
  have H4 := Lib.hid hTl
  have H5 := Lib.hid hTp
  have H6 := Lib.hid hZ
  have H7 := Lib.hid hzl
  have H8 := Lib.hid hg
  have H9 := Lib.hid hlm
  have HA := Lib.hid hreads
  have HB := Lib.hid hpl
  clear hp hRep hT hTl hTp hZ hzl hg hlm hreads hpl
  have hcode : mid52 = .seq (seqL mid52) (.seq (seqL (seqR mid52)) (.seq (seqL (seqR (seqR mid52))) rest52)) := by kernel_rfl
  rw [hcode]
  clear hcode
  refine wp_seq ?_
  conv => arg 2; whnf
  go_wp2_with (refine stand_sliceT 90 ?_)
  have e9 : (1 : Int) + (p : Int) + 8 = ((p + 9 : Nat) : Int) := by omega
  rw [e9]
  refine go_on (s_run (v := .slice (some ⟨t, 0, none⟩) (p + 9) 72) (w' := w) rfl (e_sl90h (p + 9) (by omega) rfl rfl w) ?_)
  clear e9
  go_wp2_with fail
  refine (write_any g _ m (Md.pad m.length) w H2.out HA.out (fun h => by have h2 : t = g := Option.some.inj h; omega) (by have h1 := HB.out; have h2 := H9.out; omega)).mono ?_
  rintro e w1 ⟨rfl, hr1, g1⟩
  obtain ⟨s, xs, nx, d1, p1⟩ := id hr1
  have p1 : Md.Rp s xs nx (Md.padded m) := p1
  have hnx : nx = 0 := by rw [p1.ix]; exact Md.padded_length m
  subst hnx
  have L1 := d1.nx
  have D1 := Lib.hid d1
  have P1 := Lib.hid p1
  have G1 := Lib.hid (grown_trans H8.out g1)
  have Z1 := Lib.hid (H6.out.grown g1 (by omega))
  have hg1 : g < w1.heap.size := d1.lt
  clear hr1 d1 p1 g1
  go_wp2_with fail
  conv => arg 2; whnf
  go_wp2_with fail
  conv => arg 2; whnf
  go_wp2_with fail
  have hcode : rest52 = .seq (seqL rest52) (.seq (seqL (seqR rest52)) (.seq (seqL (seqR (seqR rest52))) (.seq (seqL (seqR (seqR (seqR rest52)))) (seqR (seqR (seqR (seqR rest52))))))) := by kernel_rfl
  rw [hcode]
  clear hcode
  have b2 : Below w1.heap.size w1 (w1.alloc (.cells Z16 65)) := (Below.refl _ _).alloc (Nat.le_refl _) _
  have r2 : Row (w1.alloc (.cells Z16 65)) w1.heap.size 65 (List.replicate 16 0) := heap_alloc_at _ _ _ rfl
  have d2 := D1.out.below b2
  have g2 := grown_alloc G1.out (.cells Z16 65)
  have z2 := Z1.out.below b2
  have hnw : n < w1.heap.size := Z1.out.lt
  have hsz := G1.out.size
  generalize (w1.alloc (.cells Z16 65)) = w2 at *
  refine wp_seq (cs_put0 ⟨rfl, rfl, rfl, rfl, rfl⟩ d2 r2 (by simp) (by omega) (fun a3 w3 f3 d3 r3 g3 => ?_))
  refine (show Code.wp Try.prog _ _ _ _ from ?_)
  refine wp_seq (cs_put1 f3 d3 r3 (by simp [setL, Md.lo32]) (by omega) (fun a4 w4 f4 d4 r4 g4 => ?_))
  refine (show Code.wp Try.prog _ _ _ _ from ?_)
  refine wp_seq (cs_put2 f4 d4 r4 (by simp [setL, Md.lo32]) (by omega) (fun a5 w5 f5 d5 r5 g5 => ?_))
  refine (show Code.wp Try.prog _ _ _ _ from ?_)
  refine wp_seq (cs_put3 f5 d5 r5 (by simp [setL, Md.lo32]) (by omega) (fun a6 w6 f6 d6 r6 g6 => ?_))
  refine (show Code.wp Try.prog _ _ _ _ from ?_)
  have hlow : setL (4 * 3) (Md.lo32 s.d) (setL (4 * 2) (Md.lo32 s.c) (setL (4 * 1) (Md.lo32 s.b) (setL (4 * 0) (Md.lo32 s.a) (List.replicate 16 0)))) = Md.md5 m := by
    rw [← Md.rp_state P1.out]
    rfl
  rw [hlow] at r6
  have g36 := grown_trans (grown_trans (grown_trans g3 g4) g5) g6
  exact cs_end f6 r6 (Md.md5_length m) (z2.grown g36 (by omega)) H7.out (grown_new g2 g36 (by omega)) hn

theorem wrap_u64_in (x : Int) (h1 : 0 ≤ x) (h2 : x ≤ 18446744073709551615) : IntKind.u64.wrap x = x := by
  rw [IntKind.wrap_u64]; omega
theorem pad_go (k : Nat) (hk : k ≤ 288230376151711744) : (IntKind.u64.wrap (55 - (k : Int))).tmod 64 = ((Md.padz k : Nat) : Int) := by
  rw [IntKind.wrap_u64, Int.tmod_eq_emod_of_nonneg (by omega)]
  unfold Md.padz
  omega
section
variable {a : Act} {d : Option Tmp} {x y : Operand} {ty : TypeId} {pos : String} {af : Array Edge} {v : Value} {g : Nat}
theorem e_fa3 (hx : a.eval x = .pointer (some ⟨g, 0, none⟩)) (w : World) : (execOp a.eval { dst := d, op := .fieldAddr 78 x 3, type := ty, pos := pos, after := af, guard := none }).run Try.prog w = .ok (.value (.pointer (some ⟨g, 69, none⟩))) w := by
  simp only [execOp, hx, Sem.run_bind, run_fa3, Result.andThen_ok, Sem.run_pure]
theorem run_ld69 (x : Addr) (v : Value) (w : World) (h : w.cell? x = some v) : (Instr.loadAt 69 (.pointer (some x))).run Try.prog w = .ok v w := by
  simp [go_sem, h]
theorem e_ld69 {p : Addr} (hx : a.eval x = .pointer (some p)) (w : World) (h : w.cell? p = some v) : (execOp a.eval { dst := d, op := .load 69 x, type := ty, pos := pos, after := af, guard := none }).run Try.prog w = .ok (.value v) w := by
  simp only [execOp, hx, Sem.run_bind, run_ld69 p v w h, Result.andThen_ok, Sem.run_pure]
theorem e_one64 {p : Nat} (hp : p ≤ 63) (hx : a.eval x = .int .u64 (p : Int)) (w : World) : (execOp a.eval { dst := d, op := .binOp .add 69 (.const (.int .u64 1)) x 69, type := ty, pos := pos, after := af, guard := none }).run Try.prog w = .ok (.value (.int .u64 ((p + 1 : Nat) : Int))) w := by
  have e : (1 : Int) + (p : Int) = ((p + 1 : Nat) : Int) := by omega
  have e2 := wrap_u64_in ((p + 1 : Nat) : Int) (by omega) (by omega)
  simp only [execOp, hx, eval_const]
  show Result.ok (Next.value (Value.int .u64 (IntKind.u64.wrap ((1 : Int) + (p : Int))))) w = _
  rw [e, e2]
theorem e_shl3 {k : Nat} (hk : k ≤ 288230376151711744) (hx : a.eval x = .int .u64 (k : Int)) (w : World) : (execOp a.eval { dst := d, op := .binOp .shl 69 x (.const (.int .u64 3)) 63, type := ty, pos := pos, after := af, guard := none }).run Try.prog w = .ok (.value (.int .u64 ((8 * k : Nat) : Int))) w := by
  have e2 := wrap_u64_in ((8 * k : Nat) : Int) (by omega) (by omega)
  simp only [execOp, hx, eval_const]
  rw [show ((8 * k : Nat) : Int) = (k : Int) * 8 by omega] at e2 ⊢
  simp [go_sem, e2]
end
theorem hb59 : Try.f59.body.isNone = false := by kernel_rfl
theorem hn59 : (Try.f59.name == "runtime.NumGoroutine") = false := by kernel_rfl
/-- The values of checkSum's region 3. -/
def V52c (g t p k : Nat) (j : Nat) (v : Value) (_ : World) : Prop :=
  match j with
  | 0 => v = .int .u64 (p : Int)
  | 1 => v = .int .u64 ((p + 1 : Nat) : Int)
  | 2 => v = .slice (some ⟨t, p + 1, none⟩) (72 - (p + 1)) (72 - (p + 1))
  | 5 => v = .pointer (some ⟨g, 69, none⟩)
  | 6 => v = .int .u64 (k : Int)
  | 7 => v = .int .u64 ((8 * k : Nat) : Int)
  | _ => v = .pointer (some ⟨g, 0, none⟩)
theorem pad_row (k : Nat) (hk : Md.padz k ≤ 63) : (setL (Md.padz k + 1) (Md.le64 (8 * k)) ((128 : UInt8) :: List.replicate 71 0)).take (Md.padz k + 9) = Md.pad k := by
  rw [setL_eq _ _ _ (by simp [Md.le64_length]; omega), Md.le64_length]
  unfold Md.pad
  rw [List.take_succ_cons, List.take_replicate, Nat.min_eq_left (by omega), ← List.append_assoc, List.take_append_of_le_length (by simp [Md.le64_length]), List.take_of_length_le (by simp [Md.le64_length])]
  rfl

set_option maxRecDepth 100000 in
set_option maxHeartbeats 4000000 in
theorem checkSum_any (g : Nat) (m : List UInt8) (w : World) (h : Rep w g m) (hl : m.length ≤ 288230376151711744) :
    Calls Try.prog 52 #[.pointer (some ⟨g, 0, none⟩)] w fun e w' => e = .returned (aggB (Md.md5 m)) ∧ w.grownBy w' (some g) := by
  have hz := zero65
  have hz2 := Z16_size
  have hz3 := zero90
  have hz4 := Z72_size
  have hg : g < w.heap.size := h.lt
  have H := Lib.hid h
  have HL := Lib.hid hl
  clear h hl
  go_enter Try.func52, Try.ntmps52
  refine (show Code.wp Try.prog (.seq (seqL code52) (.seq (seqL (seqR code52)) (.seq (seqL (seqR (seqR code52))) (.seq (seqL (seqR (seqR (seqR code52)))) mid52)))) _ _ _ from ?_)
  refine wp_seq ?_
  conv => arg 2; whnf
  go_wp2_with fail
  conv => arg 2; whnf
  go_wp2_with (refine stand_store ?_)
  have b1 : Below w.heap.size w (w.alloc (.cells Z16 65)) := (Below.refl _ _).alloc (Nat.le_refl _) _
  have b2 : Below w.heap.size w ((w.alloc (.cells Z16 65)).alloc (.cells Z72 90)) := b1.alloc (by rw [World.size_alloc]; omega) _
  have rz : Row ((w.alloc (.cells Z16 65)).alloc (.cells Z72 90)) w.heap.size 65 (List.replicate 16 0) := (heap_alloc_lt _ _ _ (by rw [World.size_alloc]; omega)).trans (heap_alloc_at _ _ _ rfl)
  have rt : Row ((w.alloc (.cells Z16 65)).alloc (.cells Z72 90)) (w.heap.size + 1) 90 (List.replicate 72 0) := heap_alloc_at _ _ _ (by rw [World.size_alloc])
  generalize ((w.alloc (.cells Z16 65)).alloc (.cells Z72 90)) = w2 at *
  refine go_on (wpList_store_mid rfl 90 (.tmp 3) (.tmp 6) rfl (w.heap.size + 1) 0 (((128 : UInt8) :: List.replicate 71 0).map B).toArray rfl rfl (by
      have h := row_there rt
      simpa using h) (by kernel_rfl) (all_oneCell_toArray (oneCell_B _)) ?_)
  have rt2 : Row (w2.setCells (w.heap.size + 1) 0 (((128 : UInt8) :: List.replicate 71 0).map B)) (w.heap.size + 1) 90 ((128 : UInt8) :: List.replicate 71 0) := row_store rt _ (by simp)
  have g3 := grown_setCells (w.heap.size + 1) (((128 : UInt8) :: List.replicate 71 0).map B) 0 w2
  have hsz : w.heap.size + 1 < w2.heap.size := rt.lt
  refine (show wpList Try.prog _ _ _ _ (w2.setCells (w.heap.size + 1) 0 (((128 : UInt8) :: List.replicate 71 0).map B)) from ?_)
  generalize (w2.setCells (w.heap.size + 1) 0 (((128 : UInt8) :: List.replicate 71 0).map B)) = w3 at *
  have b3 : Below w.heap.size w w3 := Below.grown b2 g3 b2.size (fun k hk => by injection hk with hk; omega)
  have rz3 := rz.grown g3 (by omega)
  have h3 := H.out.below b3
  obtain ⟨s, xs, nx, hD, hP⟩ := id h3
  obtain ⟨k, hk⟩ : ∃ k, k = m.length := ⟨_, rfl⟩
  rw [← hk] at hD
  have L := hD.ln
  have HK := Lib.hid hk
  have H3 := Lib.hid h3
  have B3 := Lib.hid b3
  have RZ := Lib.hid rz3
  have RT := Lib.hid rt2
  have q1 : (k : Int) ≤ 288230376151711744 := by have := HL.out; omega
  clear b1 b2 rz rt g3 hsz b3 rz3 h3 hD hP hk rt2
  go_wp2_with fail
  conv => arg 2; whnf
  go_wp2_with fail
  have hk9 : k ≤ 288230376151711744 := by omega
  have hp9 : Md.padz k ≤ 63 := by unfold Md.padz; omega
  rw [pad_go k hk9]
  conv => arg 2; whnf
  refine wp_region_mono 8 Dr (V52c g (w.heap.size + 1) (Md.padz k) k) hm (by kernel_rfl) 63 (by rfl) (by kernel_rfl) Dr.refl (fun _ _ _ => Dr.trans) (fun _ _ _ _ h _ => h) ?_ ?_
  · refine ⟨?_, ?_, ?_, ?_, ?_, ?_, ?_, ?_, trivial⟩
    · intro a w1 hs hd hr h1 h2
      exact m_val rfl rfl (e_move (h1 4 (by kernel_rfl)) w1) rfl (Dr.refl _) rfl
    · intro a w1 hs hd hr h1 h2
      exact m_val rfl rfl (e_one64 hp9 (h2 0 13 (by kernel_rfl)) w1) rfl (Dr.refl _) rfl
    · intro a w1 hs hd hr h1 h2
      exact m_val rfl rfl (e_sl90l (Md.padz k + 1) (by omega) (h1 3 (by kernel_rfl)) (h2 1 14 (by kernel_rfl)) w1) rfl (Dr.refl _) rfl
    · intro a w1 hs hd hr h1 h2
      exact m_val rfl rfl (e_move (h1 0 (by kernel_rfl)) w1) rfl (Dr.refl _) rfl
    · intro a w1 hs hd hr h1 h2
      exact m_val rfl rfl (e_nil (h2 3 16 (by kernel_rfl)) w1) rfl (Dr.refl _) rfl
    · intro a w1 hs hd hr h1 h2
      exact m_val rfl rfl (e_fa3 (h2 4 17 (by kernel_rfl)) w1) rfl (Dr.refl _) rfl
    · intro a w1 hs hd hr h1 h2
      exact m_val rfl rfl (e_ld69 (h2 5 18 (by kernel_rfl)) w1 ((hr.cell _).trans L)) rfl (Dr.refl _) rfl
    · intro a w1 hs hd hr h1 h2
      exact m_val rfl rfl (e_shl3 hk9 (h2 6 19 (by kernel_rfl)) w1) rfl (Dr.refl _) rfl
  · intro a w4 hs1 hd1 hr h1 h2
    have hdr : Dr w3 w4 := Dr.trans ⟨1, rfl⟩ hr
    have v2 := h2 2 15 (by kernel_rfl)
    have v7 := h2 7 20 (by kernel_rfl)
    simp only [V52c] at v2 v7
    refine s_call Try.func59 hb59 hn59 #[.slice (some ⟨w.heap.size + 1, Md.padz k + 1, none⟩) (72 - (Md.padz k + 1)) (72 - (Md.padz k + 1)), .int .u64 ((8 * k : Nat) : Int)] (by simp only [List.map_toArray, List.map_cons, List.map_nil, v2, v7]) ?_
    refine (put64_any (w.heap.size + 1) (Md.padz k + 1) _ _ 90 _ (8 * k) (by omega) w4 (RT.out.dr hdr) (by simp; omega) (by omega)).mono ?_
    rintro e w5 ⟨rfl, r5, g5⟩
    refine ⟨_, rfl, wpList_nil ?_⟩
    go_step
    go_step
    have b4 : Below w.heap.size w w4 := Below.trans B3.out (below_dr hdr)
    have b5 : Below w.heap.size w w5 := Below.grown b4 g5 b4.size (fun k hk => by injection hk with hk; omega)
    have hs' : a.tmps.size = 63 := hs1
    have hg3 : g < w3.heap.size := H3.out.lt
    refine cs_mid (g := g) (n := w.heap.size) (t := w.heap.size + 1) (p := Md.padz k) (m := m) ?_ ?_ ((eval_put_other _ _ _ _ (by omega)).trans (h1 0 (by kernel_rfl))) ((eval_put_other _ _ _ _ (by omega)).trans (h1 2 (by kernel_rfl))) ((eval_put_other _ _ _ _ (by omega)).trans (h1 3 (by kernel_rfl))) ((eval_put_other _ _ _ _ (by omega)).trans (h1 4 (by kernel_rfl)))
      (by rw [HK.out]) (H.out.below b5) r5 ?_ ?_ ((RZ.out.dr hdr).grown g5 (by omega)) (by simp) (grown_below b5) hg (by omega) (Nat.le_refl _) HL.out
    · simp only [size_put]; exact hs'
    · simp only [defers_put]; exact hd1
    · rw [setL_eq _ _ _ (by simp [Md.le64_length]; omega)]
      simp [Md.le64_length]
      omega
    · rw [pad_row k hp9, HK.out]
end Go.Proofs.Ytkjapcmnopnblaa
