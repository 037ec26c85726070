/- md5.blockGeneric: it takes all whole blocks of the bytes up into the digest's four words, and leaves all else alone. -/
import Derived.Test.YtkjapcmnopnblaaMm
namespace Go.Proofs.Ytkjapcmnopnblaa
open Go.RowKit
set_option linter.unusedVariables false
set_option linter.unusedSimpArgs false

section
variable {w : World} {ops : Array Oper} {Q : Exit → Act → World → Prop} {a : Act} {rest : List Oper}
theorem eval_const (v : Value) : a.eval (.const v) = v := rfl
theorem s_len24 {d : Option Tmp} {x : Operand} {ty : TypeId} {pos : String} {af : Array Edge} {b : Option Addr} {n c : Nat}
    (hx : a.eval x = .slice b n c)
    (h : wpList Try.prog ops Q rest (a.put d (.int .i64 (n : Int))) w) :
    wpList Try.prog ops Q ({ dst := d, op := .call { callee := .builtin .len, args := #[x], argTypes := #[24] }, type := ty, pos := pos, after := af, guard := none } :: rest) a w := by
  refine s_run rfl ?_ h
  simp only [Go.BigFrame.execOp_builtin, List.map_toArray, List.map_cons, List.map_nil, hx]
  simp [go_sem]
theorem s_lo24 {d : Option Tmp} {x lo : Operand} {ty : TypeId} {pos : String} {af : Array Edge} {b o n c l : Nat}
    (hx : a.eval x = .slice (some ⟨b, o, none⟩) n c) (hl : a.eval lo = .int .i64 (l : Int)) (h1 : l ≤ n) (h2 : l < c)
    (h : wpList Try.prog ops Q rest (a.put d (.slice (some ⟨b, o + l, none⟩) (n - l) (c - l))) w) :
    wpList Try.prog ops Q ({ dst := d, op := .slice 24 x (some lo) none none, type := ty, pos := pos, after := af, guard := none } :: rest) a w := by
  refine s_run rfl ?_ h
  simp only [execOp, Option.map_some, Option.map_none, hx, hl]
  simp [go_sem, h1]
  omega
theorem s_hm24 {d : Option Tmp} {x : Operand} {ty : TypeId} {pos : String} {af : Array Edge} {b o n c : Nat}
    (hx : a.eval x = .slice (some ⟨b, o, none⟩) n c) (h1 : 64 ≤ c)
    (h : wpList Try.prog ops Q rest (a.put d (.slice (some ⟨b, o, none⟩) 64 64)) w) :
    wpList Try.prog ops Q ({ dst := d, op := .slice 24 x none (some (.const (.int .i64 64))) (some (.const (.int .i64 64))), type := ty, pos := pos, after := af, guard := none } :: rest) a w := by
  refine s_run rfl ?_ h
  have h2 : (64 : Int) ≤ (c : Int) := by omega
  simp only [execOp, Option.map_some, Option.map_none, hx, eval_const]
  simp [go_sem, Instr.slice, Instr.sliceBounds, run_sliceBound, h1, h2]
theorem s_sub64 {d : Option Tmp} {x y : Operand} {t t' ty : TypeId} {pos : String} {af : Array Edge} {p q r : Int}
    (hx : a.eval x = .int .i64 p) (hy : a.eval y = .int .i64 q) (hr : IntKind.i64.wrap (p - q) = r)
    (h : wpList Try.prog ops Q rest (a.put d (.int .i64 r)) w) :
    wpList Try.prog ops Q ({ dst := d, op := .binOp .sub t x y t', type := ty, pos := pos, after := af, guard := none } :: rest) a w := by
  refine s_run rfl ?_ h
  subst hr
  simp only [execOp, hx, hy]
  simp [go_sem]
theorem s_add64 {d : Option Tmp} {x y : Operand} {t t' ty : TypeId} {pos : String} {af : Array Edge} {p q r : Int}
    (hx : a.eval x = .int .i64 p) (hy : a.eval y = .int .i64 q) (hr : IntKind.i64.wrap (p + q) = r)
    (h : wpList Try.prog ops Q rest (a.put d (.int .i64 r)) w) :
    wpList Try.prog ops Q ({ dst := d, op := .binOp .add t x y t', type := ty, pos := pos, after := af, guard := none } :: rest) a w := by
  refine s_run rfl ?_ h
  subst hr
  simp only [execOp, hx, hy]
  simp [go_sem]
theorem s_leq64 {d : Option Tmp} {x y : Operand} {t t' ty : TypeId} {pos : String} {af : Array Edge} {p q : Int} {r : Bool}
    (hx : a.eval x = .int .i64 p) (hy : a.eval y = .int .i64 q) (hr : decide (p ≤ q) = r)
    (h : wpList Try.prog ops Q rest (a.put d (.bool r)) w) :
    wpList Try.prog ops Q ({ dst := d, op := .binOp .leq t x y t', type := ty, pos := pos, after := af, guard := none } :: rest) a w := by
  refine s_run rfl ?_ h
  subst hr
  simp only [execOp, hx, hy]
  simp [go_sem]
end

/-! ### One word of the block -/
section
variable {w w0 : World} {Q : Exit → Act → World → Prop} {a : Act} {y : Code} {id : Nat}
variable {g : Nat} {pv : Value} {i : Int} {sv s : Md.St} {p : List UInt8} {b o : Nat}
theorem ldw (k m : Nat) {sx : Nat} {nk : Int} (hc : (decide (k < 16) && decide (30 ≤ m) && decide (m + 20 ≤ 1058) && nk == ((4 * k : Nat) : Int) && sx == 14 + k) = true)
    {ty0 ty1 ty2 ty3 : TypeId} {po0 po1 po2 po3 : String} {af0 af1 af2 af3 : Array Edge} {ats : Array TypeId}
    (hI : Bd g pv (.slice (some ⟨b, o, none⟩) 64 64) i sv (Md.wordAt p) k s 4 5 6 7 a) (hw : Dr w0 w)
    (hcell : ∀ j, j < 64 → w0.cell? ⟨b, o + j, none⟩ = some (B (p.getD j 0)))
    (H : ∀ a' w', Dr w0 w' → Bd g pv (.slice (some ⟨b, o, none⟩) 64 64) i sv (Md.wordAt p) (k + 1) s 4 5 6 7 a' → y.wp Try.prog Q a' w') :
    (Code.seq (Code.region id #[{ dst := some m, op := .move (.tmp 9), type := ty0, pos := po0, after := af0, guard := none },
      { dst := some (m + 1), op := .slice 24 (.tmp m) (some (.const (.int .i64 nk))) none none, type := ty1, pos := po1, after := af1, guard := none },
      { dst := some (m + 2), op := .call { callee := .value (.func 57), args := #[(.tmp (m + 1))], argTypes := ats }, type := ty2, pos := po2, after := af2, guard := none },
      { dst := some sx, op := .assign (.tmp (m + 2)), type := ty3, pos := po3, after := af3, guard := none }] false) y).wp Try.prog Q a w := by
  simp only [Bool.and_eq_true, decide_eq_true_eq, beq_iff_eq] at hc
  obtain ⟨⟨⟨⟨h0, h1⟩, h2⟩, rfl⟩, rfl⟩ := hc
  have hs := hI.size
  have hq := hI.q
  refine wp_seq (wp_region_lit ?_)
  refine s_mv hq ?_
  refine s_lo24 (eval_put_same _ _ _ (by omega)) rfl (by omega) (by omega) ?_
  refine s_call Try.func57 hb57 hn57 #[.slice (some ⟨b, o + 4 * k, none⟩) (64 - 4 * k) (64 - 4 * k)] (by
    simp only [List.map_toArray, List.map_cons, List.map_nil]
    rw [eval_put_same _ _ _ (by simp only [size_put]; omega)]) ?_
  refine (le32_any b (o + 4 * k) _ _ (p.getD (4 * k) 0) (p.getD (4 * k + 1) 0) (p.getD (4 * k + 2) 0) (p.getD (4 * k + 3) 0) w (by omega)
    ((hw.cell _).trans (hcell (4 * k) (by omega)))
    ((hw.cell _).trans (hcell (4 * k + 1) (by omega)))
    ((hw.cell _).trans (hcell (4 * k + 2) (by omega)))
    ((hw.cell _).trans (hcell (4 * k + 3) (by omega)))).mono ?_
  rintro e w' ⟨rfl, hd⟩
  refine ⟨_, rfl, ?_⟩
  refine s_as (eval_put_same _ _ _ (by simp only [size_put]; omega)) ?_
  refine wpList_nil (H _ _ (hw.trans hd) (hI.word ?_ h0))
  refine ⟨?_, ?_, ?_, ?_⟩
  · simp only [size_put]
  · simp only [defers_put]
  · exact eval_put_same _ _ _ (by simp only [size_put]; omega)
  · intro t ht hne
    simp (disch := first | omega | (simp only [size_put]; omega)) only [eval_put_same, eval_put_other]

/-- A sum put back: 'a += aa'. -/
theorem adw {ops : Array Oper} (m sa sv : Nat) (h1 : 30 ≤ m) (h2 : m + 20 ≤ a.tmps.size) (la : sa < 30) (lv : sv < 30) {A V : Md.W}
    {ty0 ty1 ty2 ty3 t2 u2 : TypeId} {po0 po1 po2 po3 : String} {af0 af1 af2 af3 : Array Edge}
    (ha : a.eval (.tmp sa) = U A) (hv : a.eval (.tmp sv) = U V) (H : ∀ a', Upd a sa (U (A + V)) a' → Q .normal a' w) :
    wpList Try.prog ops Q [{ dst := some m, op := .move (.tmp sa), type := ty0, pos := po0, after := af0, guard := none },
      { dst := some (m + 1), op := .move (.tmp sv), type := ty1, pos := po1, after := af1, guard := none },
      { dst := some (m + 2), op := .binOp .add t2 (.tmp m) (.tmp (m + 1)) u2, type := ty2, pos := po2, after := af2, guard := none },
      { dst := some sa, op := .assign (.tmp (m + 2)), type := ty3, pos := po3, after := af3, guard := none }] a w := by
  refine s_mv ha ?_
  refine s_mv ((eval_put_other _ _ _ _ (by omega)).trans hv) ?_
  refine s_add ((eval_put_other _ _ _ _ (by omega)).trans (eval_put_same _ _ _ (by omega))) (eval_put_same _ _ _ (by simp only [size_put]; omega)) ?_
  refine s_as (eval_put_same _ _ _ (by simp only [size_put]; omega)) ?_
  refine wpList_nil (H _ ⟨?_, ?_, ?_, ?_⟩)
  · simp only [size_put]
  · simp only [defers_put]
  · exact eval_put_same _ _ _ (by simp only [size_put]; omega)
  · intro t ht hne
    simp (disch := first | omega | (simp only [size_put]; omega)) only [eval_put_same, eval_put_other]
end

/-! ### The code's parts, taken out of the translation -/
def seqL : Code → Code
  | .seq a _ => a
  | c => c
def seqR : Code → Code
  | .seq _ b => b
  | c => c
def inside : Code → Code
  | .block _ c => c
  | .loop c => c
  | c => c
/-- All of the function's code; the loop's body; the head of the loop's body; a block taken up. -/
noncomputable def code51 : Code := Try.f51.body.getD .skip
noncomputable def loop51 : Code := inside (inside (seqR (seqL (seqR code51))))
noncomputable def head51 : Code := seqL loop51
noncomputable def work51 : Code := inside (seqL (seqR loop51))
noncomputable def post51 : Code := seqR (seqR loop51)


section
variable {w w0 : World} {Q : Exit → Act → World → Prop} {a : Act} {y : Code} {id4 id5 id6 : Nat}
variable {g : Nat} {pv : Value} {sv s : Md.St} {p : List UInt8} {b o n c l : Nat}
/-- The block is cut out and the state saved. -/
theorem save_any (hI : Bd0 g (.slice (some ⟨b, o, none⟩) n c) (l : Int) s a) (h1 : l + 64 ≤ n) (h2 : n ≤ c)
    {ta tb tc td te tf tg th ti tj tk tl tm tn to' : TypeId} {pa pb pc pd pe pf pg ph pi pj pk pl pm pn po : String} {aa ab ac ad ae af ag ah ai aj ak al am an ao : Array Edge}
    (H : ∀ a', Bd g (.slice (some ⟨b, o, none⟩) n c) (.slice (some ⟨b, o + l, none⟩) 64 64) (l : Int) s (Md.wordAt p) 0 s 4 5 6 7 a' → y.wp Try.prog Q a' w) :
    (Code.seq (Code.region id4 #[{ dst := some 57, op := .move (.tmp 1), type := ta, pos := pa, after := aa, guard := none },
      { dst := some 58, op := .move (.tmp 8), type := tb, pos := pb, after := ab, guard := none },
      { dst := some 59, op := .slice 24 (.tmp 57) (some (.tmp 58)) none none, type := tc, pos := pc, after := ac, guard := none },
      { dst := some 9, op := .assign (.tmp 59), type := td, pos := pd, after := ad, guard := none }] false)
    (Code.seq (Code.region id5 #[{ dst := some 60, op := .move (.tmp 9), type := te, pos := pe, after := ae, guard := none },
      { dst := some 61, op := .slice 24 (.tmp 60) none (some (.const (.int .i64 64))) (some (.const (.int .i64 64))), type := tf, pos := pf, after := af, guard := none },
      { dst := some 9, op := .assign (.tmp 61), type := tg, pos := pg, after := ag, guard := none }] false)
    (Code.seq (Code.region id6 #[{ dst := some 62, op := .move (.tmp 4), type := th, pos := ph, after := ah, guard := none },
      { dst := some 63, op := .move (.tmp 5), type := ti, pos := pi, after := ai, guard := none },
      { dst := some 64, op := .move (.tmp 6), type := tj, pos := pj, after := aj, guard := none },
      { dst := some 65, op := .move (.tmp 7), type := tk, pos := pk, after := ak, guard := none },
      { dst := some 10, op := .assign (.tmp 62), type := tl, pos := pl, after := al, guard := none },
      { dst := some 11, op := .assign (.tmp 63), type := tm, pos := pm, after := am, guard := none },
      { dst := some 12, op := .assign (.tmp 64), type := tn, pos := pn, after := an, guard := none },
      { dst := some 13, op := .assign (.tmp 65), type := to', pos := po, after := ao, guard := none }] false) y))).wp Try.prog Q a w := by
  have hs := hI.size
  refine wp_seq (wp_region_lit ?_)
  refine s_mv hI.p ?_
  refine s_mv ((eval_put_other _ _ _ _ (by omega)).trans hI.i) ?_
  refine s_lo24 ((eval_put_other _ _ _ _ (by omega)).trans (eval_put_same _ _ _ (by omega))) (eval_put_same _ _ _ (by simp only [size_put]; omega)) (by omega) (by omega) ?_
  refine s_as (eval_put_same _ _ _ (by simp only [size_put]; omega)) ?_
  refine wpList_nil (show Code.wp Try.prog _ _ _ _ from ?_)
  refine wp_seq (wp_region_lit ?_)
  refine s_mv (eval_put_same _ _ _ (by simp only [size_put]; omega)) ?_
  refine s_hm24 (eval_put_same _ _ _ (by simp only [size_put]; omega)) (by omega) ?_
  refine s_as (eval_put_same _ _ _ (by simp only [size_put]; omega)) ?_
  refine wpList_nil (show Code.wp Try.prog _ _ _ _ from ?_)
  refine wp_seq (wp_region_lit ?_)
  refine s_mv (v := U s.a) (by simp (disch := first | omega | (simp only [size_put]; omega)) only [eval_put_same, eval_put_other, hI.p, hI.i, hI.ra, hI.rb, hI.rc, hI.rd, hI.d]) ?_
  refine s_mv (v := U s.b) (by simp (disch := first | omega | (simp only [size_put]; omega)) only [eval_put_same, eval_put_other, hI.p, hI.i, hI.ra, hI.rb, hI.rc, hI.rd, hI.d]) ?_
  refine s_mv (v := U s.c) (by simp (disch := first | omega | (simp only [size_put]; omega)) only [eval_put_same, eval_put_other, hI.p, hI.i, hI.ra, hI.rb, hI.rc, hI.rd, hI.d]) ?_
  refine s_mv (v := U s.d) (by simp (disch := first | omega | (simp only [size_put]; omega)) only [eval_put_same, eval_put_other, hI.p, hI.i, hI.ra, hI.rb, hI.rc, hI.rd, hI.d]) ?_
  refine s_as (v := U s.a) (by simp (disch := first | omega | (simp only [size_put]; omega)) only [eval_put_same, eval_put_other, hI.p, hI.i, hI.ra, hI.rb, hI.rc, hI.rd, hI.d]) ?_
  refine s_as (v := U s.b) (by simp (disch := first | omega | (simp only [size_put]; omega)) only [eval_put_same, eval_put_other, hI.p, hI.i, hI.ra, hI.rb, hI.rc, hI.rd, hI.d]) ?_
  refine s_as (v := U s.c) (by simp (disch := first | omega | (simp only [size_put]; omega)) only [eval_put_same, eval_put_other, hI.p, hI.i, hI.ra, hI.rb, hI.rc, hI.rd, hI.d]) ?_
  refine s_as (v := U s.d) (by simp (disch := first | omega | (simp only [size_put]; omega)) only [eval_put_same, eval_put_other, hI.p, hI.i, hI.ra, hI.rb, hI.rc, hI.rd, hI.d]) ?_
  refine wpList_nil (show Code.wp Try.prog _ _ _ _ from ?_)
  refine H _ ⟨?_, ?_, ?_, ?_, ?_, ?_, ?_, ?_, ?_, ?_, fun j hj => absurd hj (Nat.not_lt_zero _), ?_, ?_, ?_, ?_⟩
  · simp only [size_put]; exact hs
  · simp only [defers_put]; exact hI.defers
  all_goals simp (disch := first | omega | (simp only [size_put]; omega)) only [eval_put_same, eval_put_other, hI.p, hI.i, hI.ra, hI.rb, hI.rc, hI.rd, hI.d]

set_option maxRecDepth 100000 in
set_option maxHeartbeats 8000000 in
/-- A block taken up. -/
theorem work_any (hI : Bd0 g (.slice (some ⟨b, o, none⟩) n c) (l : Int) s a) (h1 : l + 64 ≤ n) (h2 : n ≤ c) (hw : Dr w0 w)
    (hcell : ∀ j, j < 64 → w0.cell? ⟨b, o + l + j, none⟩ = some (B (p.getD j 0)))
    (H : ∀ a' w', Dr w0 w' → Bd0 g (.slice (some ⟨b, o, none⟩) n c) (l : Int) (Md.blk s p) a' → Q .normal a' w') : work51.wp Try.prog Q a w := by
  conv => arg 2; whnf
  refine save_any (p := p) hI h1 h2 (fun a hI => ?_)
  refine ldw 0 66 (by decide) hI hw hcell (fun a w hw hI => ?_)
  refine ldw 1 69 (by decide) hI hw hcell (fun a w hw hI => ?_)
  refine ldw 2 72 (by decide) hI hw hcell (fun a w hw hI => ?_)
  refine ldw 3 75 (by decide) hI hw hcell (fun a w hw hI => ?_)
  refine ldw 4 78 (by decide) hI hw hcell (fun a w hw hI => ?_)
  refine ldw 5 81 (by decide) hI hw hcell (fun a w hw hI => ?_)
  refine ldw 6 84 (by decide) hI hw hcell (fun a w hw hI => ?_)
  refine ldw 7 87 (by decide) hI hw hcell (fun a w hw hI => ?_)
  refine ldw 8 90 (by decide) hI hw hcell (fun a w hw hI => ?_)
  refine ldw 9 93 (by decide) hI hw hcell (fun a w hw hI => ?_)
  refine ldw 10 96 (by decide) hI hw hcell (fun a w hw hI => ?_)
  refine ldw 11 99 (by decide) hI hw hcell (fun a w hw hI => ?_)
  refine ldw 12 102 (by decide) hI hw hcell (fun a w hw hI => ?_)
  refine ldw 13 105 (by decide) hI hw hcell (fun a w hw hI => ?_)
  refine ldw 14 108 (by decide) hI hw hcell (fun a w hw hI => ?_)
  refine ldw 15 111 (by decide) hI hw hcell (fun a w hw hI => ?_)
  refine rc1 0 114 (by decide +kernel) hI (fun a hI => ?_)
  refine rc1 1 129 (by decide +kernel) hI (fun a hI => ?_)
  refine rc1 2 144 (by decide +kernel) hI (fun a hI => ?_)
  refine rc1 3 159 (by decide +kernel) hI (fun a hI => ?_)
  refine rc1 4 174 (by decide +kernel) hI (fun a hI => ?_)
  refine rc1 5 189 (by decide +kernel) hI (fun a hI => ?_)
  refine rc1 6 204 (by decide +kernel) hI (fun a hI => ?_)
  refine rc1 7 219 (by decide +kernel) hI (fun a hI => ?_)
  refine rc1 8 234 (by decide +kernel) hI (fun a hI => ?_)
  refine rc1 9 249 (by decide +kernel) hI (fun a hI => ?_)
  refine rc1 10 264 (by decide +kernel) hI (fun a hI => ?_)
  refine rc1 11 279 (by decide +kernel) hI (fun a hI => ?_)
  refine rc1 12 294 (by decide +kernel) hI (fun a hI => ?_)
  refine rc1 13 309 (by decide +kernel) hI (fun a hI => ?_)
  refine rc1 14 324 (by decide +kernel) hI (fun a hI => ?_)
  refine rc1 15 339 (by decide +kernel) hI (fun a hI => ?_)
  refine rc2 16 354 (by decide +kernel) hI (fun a hI => ?_)
  refine rc2 17 369 (by decide +kernel) hI (fun a hI => ?_)
  refine rc2 18 384 (by decide +kernel) hI (fun a hI => ?_)
  refine rc2 19 399 (by decide +kernel) hI (fun a hI => ?_)
  refine rc2 20 414 (by decide +kernel) hI (fun a hI => ?_)
  refine rc2 21 429 (by decide +kernel) hI (fun a hI => ?_)
  refine rc2 22 444 (by decide +kernel) hI (fun a hI => ?_)
  refine rc2 23 459 (by decide +kernel) hI (fun a hI => ?_)
  refine rc2 24 474 (by decide +kernel) hI (fun a hI => ?_)
  refine rc2 25 489 (by decide +kernel) hI (fun a hI => ?_)
  refine rc2 26 504 (by decide +kernel) hI (fun a hI => ?_)
  refine rc2 27 519 (by decide +kernel) hI (fun a hI => ?_)
  refine rc2 28 534 (by decide +kernel) hI (fun a hI => ?_)
  refine rc2 29 549 (by decide +kernel) hI (fun a hI => ?_)
  refine rc2 30 564 (by decide +kernel) hI (fun a hI => ?_)
  refine rc2 31 579 (by decide +kernel) hI (fun a hI => ?_)
  refine rc3 32 594 (by decide +kernel) hI (fun a hI => ?_)
  refine rc3 33 607 (by decide +kernel) hI (fun a hI => ?_)
  refine rc3 34 620 (by decide +kernel) hI (fun a hI => ?_)
  refine rc3 35 633 (by decide +kernel) hI (fun a hI => ?_)
  refine rc3 36 646 (by decide +kernel) hI (fun a hI => ?_)
  refine rc3 37 659 (by decide +kernel) hI (fun a hI => ?_)
  refine rc3 38 672 (by decide +kernel) hI (fun a hI => ?_)
  refine rc3 39 685 (by decide +kernel) hI (fun a hI => ?_)
  refine rc3 40 698 (by decide +kernel) hI (fun a hI => ?_)
  refine rc3 41 711 (by decide +kernel) hI (fun a hI => ?_)
  refine rc3 42 724 (by decide +kernel) hI (fun a hI => ?_)
  refine rc3 43 737 (by decide +kernel) hI (fun a hI => ?_)
  refine rc3 44 750 (by decide +kernel) hI (fun a hI => ?_)
  refine rc3 45 763 (by decide +kernel) hI (fun a hI => ?_)
  refine rc3 46 776 (by decide +kernel) hI (fun a hI => ?_)
  refine rc3 47 789 (by decide +kernel) hI (fun a hI => ?_)
  refine rc4 48 802 (by decide +kernel) hI (fun a hI => ?_)
  refine rc4 49 816 (by decide +kernel) hI (fun a hI => ?_)
  refine rc4 50 830 (by decide +kernel) hI (fun a hI => ?_)
  refine rc4 51 844 (by decide +kernel) hI (fun a hI => ?_)
  refine rc4 52 858 (by decide +kernel) hI (fun a hI => ?_)
  refine rc4 53 872 (by decide +kernel) hI (fun a hI => ?_)
  refine rc4 54 886 (by decide +kernel) hI (fun a hI => ?_)
  refine rc4 55 900 (by decide +kernel) hI (fun a hI => ?_)
  refine rc4 56 914 (by decide +kernel) hI (fun a hI => ?_)
  refine rc4 57 928 (by decide +kernel) hI (fun a hI => ?_)
  refine rc4 58 942 (by decide +kernel) hI (fun a hI => ?_)
  refine rc4 59 956 (by decide +kernel) hI (fun a hI => ?_)
  refine rc4 60 970 (by decide +kernel) hI (fun a hI => ?_)
  refine rc4 61 984 (by decide +kernel) hI (fun a hI => ?_)
  refine rc4 62 998 (by decide +kernel) hI (fun a hI => ?_)
  refine rc4 63 1012 (by decide +kernel) hI (fun a hI => ?_)
  have hs := hI.size
  refine wp_seq (wp_region_lit (adw 1026 4 10 (by omega) (by omega) (by omega) (by omega) hI.ra hI.va (fun a1 u1 => ?_)))
  refine (show Code.wp Try.prog _ _ _ _ from ?_)
  refine wp_seq (wp_region_lit (adw 1029 5 11 (by omega) (by rw [u1.size]; omega) (by omega) (by omega) ((u1.else_ 5 (by omega) (by omega)).trans hI.rb) ((u1.else_ 11 (by omega) (by omega)).trans hI.vb) (fun a2 u2 => ?_)))
  refine (show Code.wp Try.prog _ _ _ _ from ?_)
  refine wp_seq (wp_region_lit (adw 1032 6 12 (by omega) (by rw [u2.size, u1.size]; omega) (by omega) (by omega) ((u2.else_ 6 (by omega) (by omega)).trans ((u1.else_ 6 (by omega) (by omega)).trans hI.rc))
    ((u2.else_ 12 (by omega) (by omega)).trans ((u1.else_ 12 (by omega) (by omega)).trans hI.vc)) (fun a3 u3 => ?_)))
  refine (show Code.wp Try.prog _ _ _ _ from ?_)
  refine wp_region_lit (adw 1035 7 13 (by omega) (by rw [u3.size, u2.size, u1.size]; omega) (by omega) (by omega)
    ((u3.else_ 7 (by omega) (by omega)).trans ((u2.else_ 7 (by omega) (by omega)).trans ((u1.else_ 7 (by omega) (by omega)).trans hI.rd)))
    ((u3.else_ 13 (by omega) (by omega)).trans ((u2.else_ 13 (by omega) (by omega)).trans ((u1.else_ 13 (by omega) (by omega)).trans hI.vd))) (fun a4 u4 => ?_))
  have k : ∀ t : Nat, t < 30 → t ≠ 4 → t ≠ 5 → t ≠ 6 → t ≠ 7 → a4.eval (.tmp t) = a.eval (.tmp t) := fun t ht n4 n5 n6 n7 =>
    (u4.else_ t ht n7).trans ((u3.else_ t ht n6).trans ((u2.else_ t ht n5).trans (u1.else_ t ht n4)))
  refine H a4 w hw ⟨?_, ?_, ?_, ?_, ?_, ?_, ?_, ?_, ?_⟩
  · rw [u4.size, u3.size, u2.size, u1.size]; exact hs
  · rw [u4.defers, u3.defers, u2.defers, u1.defers]; exact hI.defers
  · exact (k 0 (by omega) (by omega) (by omega) (by omega) (by omega)).trans hI.d
  · exact (k 1 (by omega) (by omega) (by omega) (by omega) (by omega)).trans hI.p
  · exact (k 8 (by omega) (by omega) (by omega) (by omega) (by omega)).trans hI.i
  · rw [u4.else_ 4 (by omega) (by omega), u3.else_ 4 (by omega) (by omega), u2.else_ 4 (by omega) (by omega), u1.here, BitVec.add_comm]; rfl
  · rw [u4.else_ 5 (by omega) (by omega), u3.else_ 5 (by omega) (by omega), u2.here, BitVec.add_comm]; rfl
  · rw [u4.else_ 6 (by omega) (by omega), u3.here, BitVec.add_comm]; rfl
  · rw [u4.here, BitVec.add_comm]; rfl
end
end Go.Proofs.Ytkjapcmnopnblaa
