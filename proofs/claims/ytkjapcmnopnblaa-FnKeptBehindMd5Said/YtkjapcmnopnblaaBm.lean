/- The contract of md5.blockGeneric: the digest takes all whole blocks of the bytes up; nothing else turns. -/
import Derived.Test.YtkjapcmnopnblaaBg
import Derived.RegionTactic
namespace Go.Proofs.Ytkjapcmnopnblaa
open Go.RowKit
set_option linter.unusedVariables false
set_option linter.unusedSimpArgs false

theorem run_fa0 (g : Nat) (w : World) : (Instr.fieldAt 78 (.pointer (some ⟨g, 0, none⟩)) 0).run Try.prog w = .ok (.pointer (some ⟨g, 0, none⟩)) w := by
  simp [go_sem]
theorem run_fa1 (g : Nat) (w : World) : (Instr.fieldAt 78 (.pointer (some ⟨g, 0, none⟩)) 1).run Try.prog w = .ok (.pointer (some ⟨g, 4, none⟩)) w := by
  simp [go_sem]
theorem run_fa2 (g : Nat) (w : World) : (Instr.fieldAt 78 (.pointer (some ⟨g, 0, none⟩)) 2).run Try.prog w = .ok (.pointer (some ⟨g, 68, none⟩)) w := by
  simp [go_sem]
theorem run_fa3 (g : Nat) (w : World) : (Instr.fieldAt 78 (.pointer (some ⟨g, 0, none⟩)) 3).run Try.prog w = .ok (.pointer (some ⟨g, 69, none⟩)) w := by
  simp [go_sem]
theorem run_ia (g : Nat) (k : Nat) (hk : k < 4) (w : World) : (Instr.indexAt 59 (.pointer (some ⟨g, 0, none⟩)) (.int .i64 (k : Int))).run Try.prog w = .ok (.pointer (some ⟨g, k, none⟩)) w := by
  have h1 : (k : Int) < 4 := by omega
  simp [go_sem, h1]
theorem run_ld58 (x : Addr) (v : Value) (w : World) (h : w.cell? x = some v) : (Instr.loadAt 58 (.pointer (some x))).run Try.prog w = .ok v w := by
  simp [go_sem, h]
theorem run_st58 (x : Addr) (u : Md.W) (v : Value) (w : World) (h : w.cell? x = some v) (hf : w.frozen? x = false) : (Instr.storeAt 58 (.pointer (some x)) (U u)).run Try.prog w = .ok () (w.setCell x (U u)) := by
  simp [go_sem, h, hf]

/-! ### What each operation of the two drawn regions yields, over a frame that is not written out -/
section
variable {a : Act} {d : Option Tmp} {x y : Operand} {ty : TypeId} {pos : String} {af : Array Edge} {v : Value} {g : Nat}
theorem e_move (hx : a.eval x = v) (w : World) : (execOp a.eval { dst := d, op := .move x, type := ty, pos := pos, after := af, guard := none }).run Try.prog w = .ok (.value v) w := by
  subst hx; rfl
theorem e_assign (hx : a.eval x = v) (w : World) : (execOp a.eval { dst := d, op := .assign x, type := ty, pos := pos, after := af, guard := none }).run Try.prog w = .ok (.value v) w := by
  subst hx; rfl
theorem e_nil {p : Addr} (hx : a.eval x = .pointer (some p)) (w : World) : (execOp a.eval { dst := d, op := .nilCheck x, type := ty, pos := pos, after := af, guard := none }).run Try.prog w = .ok (.value (.pointer (some p))) w := by
  simp only [execOp, hx]; rfl
theorem e_fa0 (hx : a.eval x = .pointer (some ⟨g, 0, none⟩)) (w : World) : (execOp a.eval { dst := d, op := .fieldAddr 78 x 0, type := ty, pos := pos, after := af, guard := none }).run Try.prog w = .ok (.value (.pointer (some ⟨g, 0, none⟩))) w := by
  simp only [execOp, hx, Sem.run_bind, run_fa0, Result.andThen_ok, Sem.run_pure]
theorem e_ia {k : Int} (n : Nat) (hk : k = (n : Int)) (hn : n < 4) (hx : a.eval x = .pointer (some ⟨g, 0, none⟩)) (w : World) : (execOp a.eval { dst := d, op := .indexAddr 59 x (.const (.int .i64 k)), type := ty, pos := pos, after := af, guard := none }).run Try.prog w = .ok (.value (.pointer (some ⟨g, n, none⟩))) w := by
  subst hk
  simp only [execOp, hx, eval_const, Sem.run_bind, run_ia g n hn, Result.andThen_ok, Sem.run_pure]
theorem e_ld58 {p : Addr} (hx : a.eval x = .pointer (some p)) (w : World) (h : w.cell? p = some v) : (execOp a.eval { dst := d, op := .load 58 x, type := ty, pos := pos, after := af, guard := none }).run Try.prog w = .ok (.value v) w := by
  simp only [execOp, hx, Sem.run_bind, run_ld58 p v w h, Result.andThen_ok, Sem.run_pure]
theorem e_st58 {p : Addr} {u : Md.W} {v0 : Value} (hx : a.eval x = .pointer (some p)) (hy : a.eval y = U u) (w : World) (h : w.cell? p = some v0) (hf : w.frozen? p = false) :
    (execOp a.eval { dst := d, op := .store 58 x y, type := ty, pos := pos, after := af, guard := none }).run Try.prog w = .ok .skip (w.setCell p (U u)) := by
  simp only [execOp, hx, hy, Sem.run_bind, run_st58 p u v0 w h hf, Result.andThen_ok, Sem.run_pure]
end

theorem put_none (a : Act) (v : Value) : a.put none v = a := rfl
/-- One operation of a quiet region. -/
theorem q_val {P : Program} {ops : Array Oper} {C : World → Prop} {Qa : Act → Prop} {a : Act} {o : Oper} {rest : List Oper} {v : Value} (hg : o.guard = none)
    (hr : ∀ w', C w' → (execOp a.eval o).run P w' = .ok (.value v) w') (h : wpQuiet P ops C Qa rest (a.put o.dst v)) : wpQuiet P ops C Qa (o :: rest) a := by
  refine wpQuiet_step fun K hK => ?_
  rw [if_pos (by simp [Region.wanted, hg])]
  refine ⟨v, fun w' hw' => ?_, hK _ h⟩
  unfold Oper.quietAt
  rw [hr w' hw']
  exact ⟨rfl, rfl⟩
/-- One operation of a drawn region that may come up first. -/
theorem y_val {P : Program} {ops : Array Oper} {a : Act} {o : Oper} {v : Value} (hg : o.guard = none) (hr : ∀ w', (execOp a.eval o).run P w' = .ok (.value v) w') : Yields P ops o v a :=
  .inl ⟨by simp [Region.wanted, hg], hr⟩

noncomputable def ops91 : Array Oper := match seqR (seqR code51) with | .region _ o _ => o | _ => #[]
theorem ops91_size : ops91.size = 24 := by kernel_rfl
theorem code51_eq : code51 = .seq (seqL code51) (.seq (.seq (seqL (seqL (seqR code51))) (.block 0 (.loop loop51))) (.region 91 ops91 true)) := by kernel_rfl
theorem hm : Try.prog.follows .mixedOrders = true := by kernel_rfl

section
variable {w : World} {Q : Exit → Act → World → Prop} {a : Act} {g : Nat} {pv : Value} {s : Md.St}
set_option maxRecDepth 100000 in
set_option maxHeartbeats 2000000 in
/-- The four words are read. -/
theorem reg0_any (hs : a.tmps.size = 1058) (hd : a.defers = []) (h0 : a.eval (.tmp 0) = .pointer (some ⟨g, 0, none⟩)) (hp : a.eval (.tmp 1) = pv)
    (ca : w.cell? ⟨g, 0, none⟩ = some (U s.a)) (cb : w.cell? ⟨g, 1, none⟩ = some (U s.b)) (cc : w.cell? ⟨g, 2, none⟩ = some (U s.c)) (cd : w.cell? ⟨g, 3, none⟩ = some (U s.d))
    (H : ∀ a' w', Dr w w' → a'.tmps.size = 1058 → a'.defers = [] → a'.eval (.tmp 0) = .pointer (some ⟨g, 0, none⟩) → a'.eval (.tmp 1) = pv →
      a'.eval (.tmp 4) = U s.a → a'.eval (.tmp 5) = U s.b → a'.eval (.tmp 6) = U s.c → a'.eval (.tmp 7) = U s.d → Q .normal a' w') : (seqL code51).wp Try.prog Q a w := by
  conv => arg 2; whnf
  refine wp_region_quiet_lit hm (by kernel_rfl) ?_
  refine q_val rfl (fun w' _ => e_move (v := .pointer (some ⟨g, 0, none⟩)) (by simp (disch := first | omega | (simp only [size_put]; omega)) only [eval_put_same, eval_put_other, h0, hp]) w') ?_
  refine q_val rfl (fun w' _ => e_nil (eval_put_same _ _ _ (by first | omega | (simp only [size_put]; omega))) w') ?_
  refine q_val rfl (fun w' _ => e_fa0 (eval_put_same _ _ _ (by simp only [size_put]; omega)) w') ?_
  refine q_val rfl (fun w' _ => e_ia 0 rfl (by omega) (eval_put_same _ _ _ (by simp only [size_put]; omega)) w') ?_
  refine q_val rfl (fun w' hw' => e_ld58 (v := U s.a) (eval_put_same _ _ _ (by simp only [size_put]; omega)) w' ((Dr.cell hw' _).trans ca)) ?_
  refine q_val rfl (fun w' _ => e_move (v := .pointer (some ⟨g, 0, none⟩)) (by simp (disch := first | omega | (simp only [size_put]; omega)) only [eval_put_same, eval_put_other, h0, hp]) w') ?_
  refine q_val rfl (fun w' _ => e_nil (eval_put_same _ _ _ (by first | omega | (simp only [size_put]; omega))) w') ?_
  refine q_val rfl (fun w' _ => e_fa0 (eval_put_same _ _ _ (by simp only [size_put]; omega)) w') ?_
  refine q_val rfl (fun w' _ => e_ia 1 rfl (by omega) (eval_put_same _ _ _ (by simp only [size_put]; omega)) w') ?_
  refine q_val rfl (fun w' hw' => e_ld58 (v := U s.b) (eval_put_same _ _ _ (by simp only [size_put]; omega)) w' ((Dr.cell hw' _).trans cb)) ?_
  refine q_val rfl (fun w' _ => e_move (v := .pointer (some ⟨g, 0, none⟩)) (by simp (disch := first | omega | (simp only [size_put]; omega)) only [eval_put_same, eval_put_other, h0, hp]) w') ?_
  refine q_val rfl (fun w' _ => e_nil (eval_put_same _ _ _ (by first | omega | (simp only [size_put]; omega))) w') ?_
  refine q_val rfl (fun w' _ => e_fa0 (eval_put_same _ _ _ (by simp only [size_put]; omega)) w') ?_
  refine q_val rfl (fun w' _ => e_ia 2 rfl (by omega) (eval_put_same _ _ _ (by simp only [size_put]; omega)) w') ?_
  refine q_val rfl (fun w' hw' => e_ld58 (v := U s.c) (eval_put_same _ _ _ (by simp only [size_put]; omega)) w' ((Dr.cell hw' _).trans cc)) ?_
  refine q_val rfl (fun w' _ => e_move (v := .pointer (some ⟨g, 0, none⟩)) (by simp (disch := first | omega | (simp only [size_put]; omega)) only [eval_put_same, eval_put_other, h0, hp]) w') ?_
  refine q_val rfl (fun w' _ => e_nil (eval_put_same _ _ _ (by first | omega | (simp only [size_put]; omega))) w') ?_
  refine q_val rfl (fun w' _ => e_fa0 (eval_put_same _ _ _ (by simp only [size_put]; omega)) w') ?_
  refine q_val rfl (fun w' _ => e_ia 3 rfl (by omega) (eval_put_same _ _ _ (by simp only [size_put]; omega)) w') ?_
  refine q_val rfl (fun w' hw' => e_ld58 (v := U s.d) (eval_put_same _ _ _ (by simp only [size_put]; omega)) w' ((Dr.cell hw' _).trans cd)) ?_
  refine q_val rfl (fun w' _ => e_assign (v := U s.a) (by simp (disch := first | omega | (simp only [size_put]; omega)) only [eval_put_same, eval_put_other, h0, hp]) w') ?_
  refine q_val rfl (fun w' _ => e_assign (v := U s.b) (by simp (disch := first | omega | (simp only [size_put]; omega)) only [eval_put_same, eval_put_other, h0, hp]) w') ?_
  refine q_val rfl (fun w' _ => e_assign (v := U s.c) (by simp (disch := first | omega | (simp only [size_put]; omega)) only [eval_put_same, eval_put_other, h0, hp]) w') ?_
  refine q_val rfl (fun w' _ => e_assign (v := U s.d) (by simp (disch := first | omega | (simp only [size_put]; omega)) only [eval_put_same, eval_put_other, h0, hp]) w') ?_
  refine wpQuiet_nil fun w' hw' => H _ _ hw' ?_ ?_ ?_ ?_ ?_ ?_ ?_ ?_
  · simp only [size_put]; exact hs
  · simp only [defers_put]; exact hd
  all_goals simp (disch := first | omega | (simp only [size_put]; omega)) only [eval_put_same, eval_put_other, h0, hp]

set_option maxRecDepth 100000 in
set_option maxHeartbeats 4000000 in
/-- The four words are put back. -/
theorem reg91_any {i : Int} (hI : Bd0 g pv i s a) {t : TypeId} {C : Array Value} (hh : w.heap[g]? = some (.cells C t (0, 0))) (hC : 4 ≤ C.size)
    (hpan : ∀ c (a1 : Act) (a2 : Act) w', a1.defers = a2.defers → Q (.panic c) a1 w' → Q (.panic c) a2 w')
    (H : ∀ a', a'.defers = [] → Q .normal a' ((((w.drew.setCell ⟨g, 0, none⟩ (U s.a)).setCell ⟨g, 1, none⟩ (U s.b)).setCell ⟨g, 2, none⟩ (U s.c)).setCell ⟨g, 3, none⟩ (U s.d))) :
    (Code.region 91 ops91 true).wp Try.prog Q a w := by
  have hs := hI.size
  have cell : ∀ (w' : World) (D : Array Value) (k : Nat), k < 4 → 4 ≤ D.size → w'.heap[g]? = some (.cells D t (0, 0)) → (∃ u, w'.cell? ⟨g, k, none⟩ = some u) ∧ w'.frozen? ⟨g, k, none⟩ = false := fun w' D k hk hD hw => by
    refine ⟨⟨D[k]'(by omega), ?_⟩, ?_⟩
    · simp [World.cell?, hw, Array.getElem?_eq_getElem (show k < D.size by omega)]
    · simp [World.frozen?, hw]
  refine wp_region_any hm ?_
  rw [ops91_size]
  change wpAny _ _ _ _ _ _ _ w.drew
  obtain ⟨t0, p0, f0, hi0⟩ : ∃ (t : TypeId) (p : String) (f : Array Edge), ops91[0]? = some { dst := some 1038, op := .move (.tmp 0), type := t, pos := p, after := f, guard := none } := ⟨_, _, _, rfl⟩
  obtain ⟨t1, p1, f1, hi1⟩ : ∃ (t : TypeId) (p : String) (f : Array Edge), ops91[1]? = some { dst := some 1039, op := .move (.tmp 0), type := t, pos := p, after := f, guard := none } := ⟨_, _, _, rfl⟩
  obtain ⟨t2, p2, f2, hi2⟩ : ∃ (t : TypeId) (p : String) (f : Array Edge), ops91[2]? = some { dst := some 1040, op := .move (.tmp 0), type := t, pos := p, after := f, guard := none } := ⟨_, _, _, rfl⟩
  obtain ⟨t3, p3, f3, hi3⟩ : ∃ (t : TypeId) (p : String) (f : Array Edge), ops91[3]? = some { dst := some 1041, op := .move (.tmp 0), type := t, pos := p, after := f, guard := none } := ⟨_, _, _, rfl⟩
  obtain ⟨t4, p4, f4, hi4⟩ : ∃ (t : TypeId) (p : String) (f : Array Edge), ops91[4]? = some { dst := some 1042, op := .move (.tmp 4), type := t, pos := p, after := f, guard := none } := ⟨_, _, _, rfl⟩
  obtain ⟨t5, p5, f5, hi5⟩ : ∃ (t : TypeId) (p : String) (f : Array Edge), ops91[5]? = some { dst := some 1043, op := .move (.tmp 5), type := t, pos := p, after := f, guard := none } := ⟨_, _, _, rfl⟩
  obtain ⟨t6, p6, f6, hi6⟩ : ∃ (t : TypeId) (p : String) (f : Array Edge), ops91[6]? = some { dst := some 1044, op := .move (.tmp 6), type := t, pos := p, after := f, guard := none } := ⟨_, _, _, rfl⟩
  obtain ⟨t7, p7, f7, hi7⟩ : ∃ (t : TypeId) (p : String) (f : Array Edge), ops91[7]? = some { dst := some 1045, op := .move (.tmp 7), type := t, pos := p, after := f, guard := none } := ⟨_, _, _, rfl⟩
  obtain ⟨t8, p8, f8, hi8⟩ : ∃ (t : TypeId) (p : String) (f : Array Edge), ops91[8]? = some { dst := some 1046, op := .nilCheck (.tmp 1038), type := t, pos := p, after := f, guard := none } := ⟨_, _, _, rfl⟩
  obtain ⟨t9, p9, f9, hi9⟩ : ∃ (t : TypeId) (p : String) (f : Array Edge), ops91[9]? = some { dst := some 1047, op := .fieldAddr 78 (.tmp 1046) 0, type := t, pos := p, after := f, guard := none } := ⟨_, _, _, rfl⟩
  obtain ⟨t10, p10, f10, hi10⟩ : ∃ (t : TypeId) (p : String) (f : Array Edge), ops91[10]? = some { dst := some 1048, op := .indexAddr 59 (.tmp 1047) (.const (.int .i64 0)), type := t, pos := p, after := f, guard := none } := ⟨_, _, _, rfl⟩
  obtain ⟨t11, p11, f11, hi11⟩ : ∃ (t : TypeId) (p : String) (f : Array Edge), ops91[11]? = some { dst := none, op := .store 58 (.tmp 1048) (.tmp 1042), type := t, pos := p, after := f, guard := none } := ⟨_, _, _, rfl⟩
  obtain ⟨t12, p12, f12, hi12⟩ : ∃ (t : TypeId) (p : String) (f : Array Edge), ops91[12]? = some { dst := some 1049, op := .nilCheck (.tmp 1039), type := t, pos := p, after := f, guard := none } := ⟨_, _, _, rfl⟩
  obtain ⟨t13, p13, f13, hi13⟩ : ∃ (t : TypeId) (p : String) (f : Array Edge), ops91[13]? = some { dst := some 1050, op := .fieldAddr 78 (.tmp 1049) 0, type := t, pos := p, after := f, guard := none } := ⟨_, _, _, rfl⟩
  obtain ⟨t14, p14, f14, hi14⟩ : ∃ (t : TypeId) (p : String) (f : Array Edge), ops91[14]? = some { dst := some 1051, op := .indexAddr 59 (.tmp 1050) (.const (.int .i64 1)), type := t, pos := p, after := f, guard := none } := ⟨_, _, _, rfl⟩
  obtain ⟨t15, p15, f15, hi15⟩ : ∃ (t : TypeId) (p : String) (f : Array Edge), ops91[15]? = some { dst := none, op := .store 58 (.tmp 1051) (.tmp 1043), type := t, pos := p, after := f, guard := none } := ⟨_, _, _, rfl⟩
  obtain ⟨t16, p16, f16, hi16⟩ : ∃ (t : TypeId) (p : String) (f : Array Edge), ops91[16]? = some { dst := some 1052, op := .nilCheck (.tmp 1040), type := t, pos := p, after := f, guard := none } := ⟨_, _, _, rfl⟩
  obtain ⟨t17, p17, f17, hi17⟩ : ∃ (t : TypeId) (p : String) (f : Array Edge), ops91[17]? = some { dst := some 1053, op := .fieldAddr 78 (.tmp 1052) 0, type := t, pos := p, after := f, guard := none } := ⟨_, _, _, rfl⟩
  obtain ⟨t18, p18, f18, hi18⟩ : ∃ (t : TypeId) (p : String) (f : Array Edge), ops91[18]? = some { dst := some 1054, op := .indexAddr 59 (.tmp 1053) (.const (.int .i64 2)), type := t, pos := p, after := f, guard := none } := ⟨_, _, _, rfl⟩
  obtain ⟨t19, p19, f19, hi19⟩ : ∃ (t : TypeId) (p : String) (f : Array Edge), ops91[19]? = some { dst := none, op := .store 58 (.tmp 1054) (.tmp 1044), type := t, pos := p, after := f, guard := none } := ⟨_, _, _, rfl⟩
  obtain ⟨t20, p20, f20, hi20⟩ : ∃ (t : TypeId) (p : String) (f : Array Edge), ops91[20]? = some { dst := some 1055, op := .nilCheck (.tmp 1041), type := t, pos := p, after := f, guard := none } := ⟨_, _, _, rfl⟩
  obtain ⟨t21, p21, f21, hi21⟩ : ∃ (t : TypeId) (p : String) (f : Array Edge), ops91[21]? = some { dst := some 1056, op := .fieldAddr 78 (.tmp 1055) 0, type := t, pos := p, after := f, guard := none } := ⟨_, _, _, rfl⟩
  obtain ⟨t22, p22, f22, hi22⟩ : ∃ (t : TypeId) (p : String) (f : Array Edge), ops91[22]? = some { dst := some 1057, op := .indexAddr 59 (.tmp 1056) (.const (.int .i64 3)), type := t, pos := p, after := f, guard := none } := ⟨_, _, _, rfl⟩
  obtain ⟨t23, p23, f23, hi23⟩ : ∃ (t : TypeId) (p : String) (f : Array Edge), ops91[23]? = some { dst := none, op := .store 58 (.tmp 1057) (.tmp 1045), type := t, pos := p, after := f, guard := none } := ⟨_, _, _, rfl⟩
  refine wpAny_take hi0 (by kernel_rfl) (by kernel_rfl) (by kernel_rfl) (fun c a1 w1 h => hpan c _ _ _ (by simp only [defers_put]) h) (y_val (v := .pointer (some ⟨g, 0, none⟩)) rfl (fun w' => e_move (by simp (disch := first | omega | (simp only [size_put]; omega)) only [put_none, eval_put_same, eval_put_other, hI.d, hI.ra, hI.rb, hI.rc, hI.rd]) w')) ?_
  refine wpAny_take hi1 (by kernel_rfl) (by kernel_rfl) (by kernel_rfl) (fun c a1 w1 h => hpan c _ _ _ (by simp only [defers_put]) h) (y_val (v := .pointer (some ⟨g, 0, none⟩)) rfl (fun w' => e_move (by simp (disch := first | omega | (simp only [size_put]; omega)) only [put_none, eval_put_same, eval_put_other, hI.d, hI.ra, hI.rb, hI.rc, hI.rd]) w')) ?_
  refine wpAny_take hi2 (by kernel_rfl) (by kernel_rfl) (by kernel_rfl) (fun c a1 w1 h => hpan c _ _ _ (by simp only [defers_put]) h) (y_val (v := .pointer (some ⟨g, 0, none⟩)) rfl (fun w' => e_move (by simp (disch := first | omega | (simp only [size_put]; omega)) only [put_none, eval_put_same, eval_put_other, hI.d, hI.ra, hI.rb, hI.rc, hI.rd]) w')) ?_
  refine wpAny_take hi3 (by kernel_rfl) (by kernel_rfl) (by kernel_rfl) (fun c a1 w1 h => hpan c _ _ _ (by simp only [defers_put]) h) (y_val (v := .pointer (some ⟨g, 0, none⟩)) rfl (fun w' => e_move (by simp (disch := first | omega | (simp only [size_put]; omega)) only [put_none, eval_put_same, eval_put_other, hI.d, hI.ra, hI.rb, hI.rc, hI.rd]) w')) ?_
  refine wpAny_take hi4 (by kernel_rfl) (by kernel_rfl) (by kernel_rfl) (fun c a1 w1 h => hpan c _ _ _ (by simp only [defers_put]) h) (y_val (v := U s.a) rfl (fun w' => e_move (by simp (disch := first | omega | (simp only [size_put]; omega)) only [put_none, eval_put_same, eval_put_other, hI.d, hI.ra, hI.rb, hI.rc, hI.rd]) w')) ?_
  refine wpAny_take hi5 (by kernel_rfl) (by kernel_rfl) (by kernel_rfl) (fun c a1 w1 h => hpan c _ _ _ (by simp only [defers_put]) h) (y_val (v := U s.b) rfl (fun w' => e_move (by simp (disch := first | omega | (simp only [size_put]; omega)) only [put_none, eval_put_same, eval_put_other, hI.d, hI.ra, hI.rb, hI.rc, hI.rd]) w')) ?_
  refine wpAny_take hi6 (by kernel_rfl) (by kernel_rfl) (by kernel_rfl) (fun c a1 w1 h => hpan c _ _ _ (by simp only [defers_put]) h) (y_val (v := U s.c) rfl (fun w' => e_move (by simp (disch := first | omega | (simp only [size_put]; omega)) only [put_none, eval_put_same, eval_put_other, hI.d, hI.ra, hI.rb, hI.rc, hI.rd]) w')) ?_
  refine wpAny_take hi7 (by kernel_rfl) (by kernel_rfl) (by kernel_rfl) (fun c a1 w1 h => hpan c _ _ _ (by simp only [defers_put]) h) (y_val (v := U s.d) rfl (fun w' => e_move (by simp (disch := first | omega | (simp only [size_put]; omega)) only [put_none, eval_put_same, eval_put_other, hI.d, hI.ra, hI.rb, hI.rc, hI.rd]) w')) ?_
  refine wpAny_take hi8 (by kernel_rfl) (by kernel_rfl) (by kernel_rfl) (fun c a1 w1 h => hpan c _ _ _ (by simp only [defers_put]) h) (y_val (v := .pointer (some ⟨g, 0, none⟩)) rfl (fun w' => e_nil (by simp (disch := first | omega | (simp only [size_put]; omega)) only [put_none, eval_put_same, eval_put_other, hI.d, hI.ra, hI.rb, hI.rc, hI.rd]) w')) ?_
  refine wpAny_take hi9 (by kernel_rfl) (by kernel_rfl) (by kernel_rfl) (fun c a1 w1 h => hpan c _ _ _ (by simp only [defers_put]) h) (y_val (v := .pointer (some ⟨g, 0, none⟩)) rfl (fun w' => e_fa0 (by simp (disch := first | omega | (simp only [size_put]; omega)) only [put_none, eval_put_same, eval_put_other, hI.d, hI.ra, hI.rb, hI.rc, hI.rd]) w')) ?_
  refine wpAny_take hi12 (by kernel_rfl) (by kernel_rfl) (by kernel_rfl) (fun c a1 w1 h => hpan c _ _ _ (by simp only [defers_put]) h) (y_val (v := .pointer (some ⟨g, 0, none⟩)) rfl (fun w' => e_nil (by simp (disch := first | omega | (simp only [size_put]; omega)) only [put_none, eval_put_same, eval_put_other, hI.d, hI.ra, hI.rb, hI.rc, hI.rd]) w')) ?_
  refine wpAny_take hi13 (by kernel_rfl) (by kernel_rfl) (by kernel_rfl) (fun c a1 w1 h => hpan c _ _ _ (by simp only [defers_put]) h) (y_val (v := .pointer (some ⟨g, 0, none⟩)) rfl (fun w' => e_fa0 (by simp (disch := first | omega | (simp only [size_put]; omega)) only [put_none, eval_put_same, eval_put_other, hI.d, hI.ra, hI.rb, hI.rc, hI.rd]) w')) ?_
  refine wpAny_take hi16 (by kernel_rfl) (by kernel_rfl) (by kernel_rfl) (fun c a1 w1 h => hpan c _ _ _ (by simp only [defers_put]) h) (y_val (v := .pointer (some ⟨g, 0, none⟩)) rfl (fun w' => e_nil (by simp (disch := first | omega | (simp only [size_put]; omega)) only [put_none, eval_put_same, eval_put_other, hI.d, hI.ra, hI.rb, hI.rc, hI.rd]) w')) ?_
  refine wpAny_take hi17 (by kernel_rfl) (by kernel_rfl) (by kernel_rfl) (fun c a1 w1 h => hpan c _ _ _ (by simp only [defers_put]) h) (y_val (v := .pointer (some ⟨g, 0, none⟩)) rfl (fun w' => e_fa0 (by simp (disch := first | omega | (simp only [size_put]; omega)) only [put_none, eval_put_same, eval_put_other, hI.d, hI.ra, hI.rb, hI.rc, hI.rd]) w')) ?_
  refine wpAny_take hi20 (by kernel_rfl) (by kernel_rfl) (by kernel_rfl) (fun c a1 w1 h => hpan c _ _ _ (by simp only [defers_put]) h) (y_val (v := .pointer (some ⟨g, 0, none⟩)) rfl (fun w' => e_nil (by simp (disch := first | omega | (simp only [size_put]; omega)) only [put_none, eval_put_same, eval_put_other, hI.d, hI.ra, hI.rb, hI.rc, hI.rd]) w')) ?_
  refine wpAny_take hi21 (by kernel_rfl) (by kernel_rfl) (by kernel_rfl) (fun c a1 w1 h => hpan c _ _ _ (by simp only [defers_put]) h) (y_val (v := .pointer (some ⟨g, 0, none⟩)) rfl (fun w' => e_fa0 (by simp (disch := first | omega | (simp only [size_put]; omega)) only [put_none, eval_put_same, eval_put_other, hI.d, hI.ra, hI.rb, hI.rc, hI.rd]) w')) ?_
  have hw0 : w.drew.heap[g]? = some (.cells C t (0, 0)) := hh
  refine wpAny_take hi10 (by kernel_rfl) (by kernel_rfl) (by kernel_rfl) (fun c a1 w1 h => hpan c _ _ _ (by simp only [defers_put]) h) (y_val (v := .pointer (some ⟨g, 0, none⟩)) rfl (fun w' => e_ia 0 rfl (by omega) (by simp (disch := first | omega | (simp only [size_put]; omega)) only [put_none, eval_put_same, eval_put_other, hI.d, hI.ra, hI.rb, hI.rc, hI.rd]) w')) ?_
  obtain ⟨⟨u0, hu0⟩, hf0⟩ := cell _ _ 0 (by omega) hC hw0
  refine wpAny_all (rs := [11]) (by kernel_rfl) (by simp) (fun i hi => ?_)
  obtain rfl : i = 11 := by simpa using hi
  unfold wpOp
  rw [hi11]
  refine .inl ?_
  unfold Oper.wp
  rw [e_st58 (p := ⟨g, 0, none⟩) (u := s.a) (by simp (disch := first | omega | (simp only [size_put]; omega)) only [put_none, eval_put_same, eval_put_other, hI.d, hI.ra, hI.rb, hI.rc, hI.rd]) (by simp (disch := first | omega | (simp only [size_put]; omega)) only [put_none, eval_put_same, eval_put_other, hI.d, hI.ra, hI.rb, hI.rc, hI.rd]) _ hu0 hf0]
  show wpAny _ _ _ _ _ _ _ _
  simp only [put_none]
  have hw1 := heap_setCell_same (i := 0) hw0 (U s.a)
  clear hu0 hf0
  refine wpAny_take hi14 (by kernel_rfl) (by kernel_rfl) (by kernel_rfl) (fun c a1 w1 h => hpan c _ _ _ (by simp only [defers_put]) h) (y_val (v := .pointer (some ⟨g, 1, none⟩)) rfl (fun w' => e_ia 1 rfl (by omega) (by simp (disch := first | omega | (simp only [size_put]; omega)) only [put_none, eval_put_same, eval_put_other, hI.d, hI.ra, hI.rb, hI.rc, hI.rd]) w')) ?_
  obtain ⟨⟨u1, hu1⟩, hf1⟩ := cell _ _ 1 (by omega) (by simpa using hC) hw1
  refine wpAny_all (rs := [15]) (by kernel_rfl) (by simp) (fun i hi => ?_)
  obtain rfl : i = 15 := by simpa using hi
  unfold wpOp
  rw [hi15]
  refine .inl ?_
  unfold Oper.wp
  rw [e_st58 (p := ⟨g, 1, none⟩) (u := s.b) (by simp (disch := first | omega | (simp only [size_put]; omega)) only [put_none, eval_put_same, eval_put_other, hI.d, hI.ra, hI.rb, hI.rc, hI.rd]) (by simp (disch := first | omega | (simp only [size_put]; omega)) only [put_none, eval_put_same, eval_put_other, hI.d, hI.ra, hI.rb, hI.rc, hI.rd]) _ hu1 hf1]
  show wpAny _ _ _ _ _ _ _ _
  simp only [put_none]
  have hw2 := heap_setCell_same (i := 1) hw1 (U s.b)
  clear hu1 hf1
  refine wpAny_take hi18 (by kernel_rfl) (by kernel_rfl) (by kernel_rfl) (fun c a1 w1 h => hpan c _ _ _ (by simp only [defers_put]) h) (y_val (v := .pointer (some ⟨g, 2, none⟩)) rfl (fun w' => e_ia 2 rfl (by omega) (by simp (disch := first | omega | (simp only [size_put]; omega)) only [put_none, eval_put_same, eval_put_other, hI.d, hI.ra, hI.rb, hI.rc, hI.rd]) w')) ?_
  obtain ⟨⟨u2, hu2⟩, hf2⟩ := cell _ _ 2 (by omega) (by simpa using hC) hw2
  refine wpAny_all (rs := [19]) (by kernel_rfl) (by simp) (fun i hi => ?_)
  obtain rfl : i = 19 := by simpa using hi
  unfold wpOp
  rw [hi19]
  refine .inl ?_
  unfold Oper.wp
  rw [e_st58 (p := ⟨g, 2, none⟩) (u := s.c) (by simp (disch := first | omega | (simp only [size_put]; omega)) only [put_none, eval_put_same, eval_put_other, hI.d, hI.ra, hI.rb, hI.rc, hI.rd]) (by simp (disch := first | omega | (simp only [size_put]; omega)) only [put_none, eval_put_same, eval_put_other, hI.d, hI.ra, hI.rb, hI.rc, hI.rd]) _ hu2 hf2]
  show wpAny _ _ _ _ _ _ _ _
  simp only [put_none]
  have hw3 := heap_setCell_same (i := 2) hw2 (U s.c)
  clear hu2 hf2
  refine wpAny_take hi22 (by kernel_rfl) (by kernel_rfl) (by kernel_rfl) (fun c a1 w1 h => hpan c _ _ _ (by simp only [defers_put]) h) (y_val (v := .pointer (some ⟨g, 3, none⟩)) rfl (fun w' => e_ia 3 rfl (by omega) (by simp (disch := first | omega | (simp only [size_put]; omega)) only [put_none, eval_put_same, eval_put_other, hI.d, hI.ra, hI.rb, hI.rc, hI.rd]) w')) ?_
  obtain ⟨⟨u3, hu3⟩, hf3⟩ := cell _ _ 3 (by omega) (by simpa using hC) hw3
  refine wpAny_all (rs := [23]) (by kernel_rfl) (by simp) (fun i hi => ?_)
  obtain rfl : i = 23 := by simpa using hi
  unfold wpOp
  rw [hi23]
  refine .inl ?_
  unfold Oper.wp
  rw [e_st58 (p := ⟨g, 3, none⟩) (u := s.d) (by simp (disch := first | omega | (simp only [size_put]; omega)) only [put_none, eval_put_same, eval_put_other, hI.d, hI.ra, hI.rb, hI.rc, hI.rd]) (by simp (disch := first | omega | (simp only [size_put]; omega)) only [put_none, eval_put_same, eval_put_other, hI.d, hI.ra, hI.rb, hI.rc, hI.rd]) _ hu3 hf3]
  show wpAny _ _ _ _ _ _ _ _
  simp only [put_none]
  have hw4 := heap_setCell_same (i := 3) hw3 (U s.d)
  clear hu3 hf3
  exact wpAny_done (by kernel_rfl) (H _ (by simp only [defers_put]; exact hI.defers)) _
end
end Go.Proofs.Ytkjapcmnopnblaa
