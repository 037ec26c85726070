/- impl.BlockMd5: whole blocks take a state up; the new state lies in new memory. -/
import Derived.Test.YtkjapcmnopnblaaMr
namespace Go.Proofs.Ytkjapcmnopnblaa
open Go.RowKit
set_option linter.unusedVariables false

section
variable {P : Program} {Q : Exit → Act → World → Prop} {l : List Oper} {R : World → World → Prop} {V : Nat → Value → World → Prop} {a : Act} {w : World} {i : Nat} {o : Oper}
theorem m_val {v : Value} {w' : World} (ho : l.toArray[i]? = some o) (hg : Region.wanted o (yielded l.toArray a.tmps) = true) (hr : (execOp a.eval o).run P w = .ok (.value v) w') (hV : V i v w') (hR : R w w') (hd : o.dst.isSome = true) :
    wpOp P l.toArray Q i (fun a2 w2 => ∃ v, a2 = a.put o.dst v ∧ V i v w2 ∧ R w w2 ∧ (o.dst = none → v = undef)) a w := by
  unfold wpOp
  simp only [ho, hg, if_true]
  refine .inl ?_
  unfold Oper.wp
  rw [hr]
  exact ⟨v, rfl, hV, hR, fun h => by rw [h] at hd; cases hd⟩
theorem m_skip {w' : World} (ho : l.toArray[i]? = some o) (hg : Region.wanted o (yielded l.toArray a.tmps) = true) (hr : (execOp a.eval o).run P w = .ok .skip w') (hV : V i undef w') (hR : R w w') :
    wpOp P l.toArray Q i (fun a2 w2 => ∃ v, a2 = a.put o.dst v ∧ V i v w2 ∧ R w w2 ∧ (o.dst = none → v = undef)) a w := by
  unfold wpOp
  simp only [ho, hg, if_true]
  refine .inl ?_
  unfold Oper.wp
  rw [hr]
  exact ⟨undef, rfl, hV, hR, fun _ => rfl⟩
theorem m_call {d : Tmp} {f : FuncId} {xs : Array Operand} {ats : Array TypeId} {ty : TypeId} {pos : String} {af : Array Edge} {gd : Option (Nat × Bool)} {fn : Func}
    (ho : l.toArray[i]? = some { dst := some d, op := .call { callee := .value (.func f), args := xs, argTypes := ats }, type := ty, pos := pos, after := af, guard := gd })
    (hg : Region.wanted { dst := some d, op := .call { callee := .value (.func f), args := xs, argTypes := ats }, type := ty, pos := pos, after := af, guard := gd } (yielded l.toArray a.tmps) = true)
    (hf : P.funcs[f]? = some fn) (hb : fn.body.isNone = false) (hn : (fn.name == "runtime.NumGoroutine") = false) (args : Array Value) (hargs : xs.map a.eval = args)
    (h : Calls P f args w fun e w' => ∃ v, e = .returned v ∧ V i v w' ∧ R w w') :
    wpOp P l.toArray Q i (fun a2 w2 => ∃ v, a2 = a.put (some d) v ∧ V i v w2 ∧ R w w2 ∧ ((some d : Option Tmp) = none → v = undef)) a w := by
  unfold wpOp
  simp only [ho, hg, if_true]
  refine .inl ?_
  unfold Oper.wp
  have hr : (execOp a.eval { dst := some d, op := .call { callee := .value (.func f), args := xs, argTypes := ats }, type := ty, pos := pos, after := af, guard := gd }).run P w = .ok (.enter f (xs.map a.eval)) w := by
    rw [execOp_call_go]
    simp only [callFunc, program, Sem.run_bind, Sem.run, Result.andThen_ok, hf, hn, hb]
    simp
  rw [hr, hargs]
  show Calls P f args w _
  refine h.mono ?_
  rintro e w' ⟨v, rfl, hv, hR⟩
  exact ⟨v, rfl, hv, hR, fun h => by cases h⟩
/-- A guarded operation that is passed over. -/
theorem m_pass (ho : l.toArray[i]? = some o) (hg : Region.wanted o (yielded l.toArray a.tmps) = false) (hV : V i undef w) (hR : R w w) :
    wpOp P l.toArray Q i (fun a2 w2 => ∃ v, a2 = a.put o.dst v ∧ V i v w2 ∧ R w w2 ∧ (o.dst = none → v = undef)) a w := by
  unfold wpOp
  simp only [ho, hg]
  exact ⟨undef, rfl, hV, hR, fun _ => rfl⟩
/-- What a guard's operation has yielded. -/
theorem yielded_of {j d : Nat} {b : Bool} (hj : writes l j d = true) (h : a.eval (.tmp d) = .bool b) : yielded l.toArray a.tmps j = some b := by
  obtain ⟨oj, ho, hd⟩ := writes_iff.1 hj
  unfold yielded
  have ho' : l.toArray[j]? = some oj := by simpa using ho
  rw [ho']
  simp only [Option.bind_some, hd]
  simp only [Act.eval, Array.getD_eq_getD_getElem?] at h
  cases hq : a.tmps[d]? with
  | none => rw [hq] at h; simp [undef] at h
  | some v => rw [hq] at h; simp at h; simp [h]
end

theorem grown_setCells (b : Nat) : ∀ (vs : List Value) (o : Nat) (w : World), w.grownBy (w.setCells b o vs) (some b)
  | [], _, w => grown_refl w b
  | v :: r, o, w => grown_trans (grown_setCell w b o v) (grown_setCells b r (o + 1) _)
/-- All that was there is as it was. -/
def RB (w w' : World) : Prop := Below w.heap.size w w'
theorem RB.refl (w : World) : RB w w := Below.refl _ _
theorem RB.trans {a b c : World} (h : RB a b) (k : RB b c) : RB a c := Below.trans h (Below.mono k h.size)
theorem RB.drew {w w' : World} (h : RB w.drew w') : RB w w' := ⟨h.os, h.tape, h.output, h.size, h.block⟩

theorem hb36 : Try.f36.body.isNone = false := by kernel_rfl
theorem hn36 : (Try.f36.name == "runtime.NumGoroutine") = false := by kernel_rfl
theorem hb39 : Try.f39.body.isNone = false := by kernel_rfl
theorem hn39 : (Try.f39.name == "runtime.NumGoroutine") = false := by kernel_rfl
theorem run_arrayAt59 (b o c : Nat) (w : World) : (Instr.arrayAt 59 (.slice (some ⟨b, o, none⟩) 4 c)).run Try.prog w = .ok (.pointer (some ⟨b, o, none⟩)) w := by
  simp [Instr.arrayAt, go_sem]

/-- The values of impl.BlockMd5's region. -/
def Vib (base : Nat) (b1 o1 c1 : Nat) (pv : Value) (s : Md.St) (bs : List UInt8) (j : Nat) (v : Value) (w : World) : Prop :=
  match j with
  | 0 => v = .slice (some ⟨b1, o1, none⟩) 4 c1
  | 1 => v = .pointer (some ⟨b1, o1, none⟩)
  | 2 => v = aggS s
  | 3 => v = pv
  | 4 => Owns w base v bs
  | 5 => v = aggS (Md.blks s bs)
  | _ => ∃ g, v = .pointer (some ⟨g, 0, none⟩) ∧ base ≤ g ∧ ∃ x0 x1 x2 x3 : Value, w.heap[g]? = some (.cells #[x0, x1, x2, x3] 59 (0, 0))
theorem Vib.keep {base b1 o1 c1 : Nat} {pv : Value} {s : Md.St} {bs : List UInt8} (j : Nat) (v : Value) (w w' : World) (h : Vib base b1 o1 c1 pv s bs j v w) (hr : RB w w') : Vib base b1 o1 c1 pv s bs j v w' := by
  match j, h with
  | 0, h => exact h
  | 1, h => exact h
  | 2, h => exact h
  | 3, h => exact h
  | 4, h => exact Owns.below h hr
  | 5, h => exact h
  | n + 6, h =>
    obtain ⟨g, h1, h2, x0, x1, x2, x3, h3⟩ := h
    exact ⟨g, h1, h2, x0, x1, x2, x3, (Below.block hr g (Array.getElem?_eq_some_iff.1 h3).1).trans h3⟩

theorem run_load59 {w : World} {b o : Nat} {s : Md.St} (ca : w.cell? ⟨b, o, none⟩ = some (U s.a)) (cb : w.cell? ⟨b, o + 1, none⟩ = some (U s.b)) (cc : w.cell? ⟨b, o + 2, none⟩ = some (U s.c)) (cd : w.cell? ⟨b, o + 3, none⟩ = some (U s.d)) :
    (Instr.loadAt 59 (.pointer (some ⟨b, o, none⟩))).run Try.prog w = .ok (aggS s) w := by
  refine run_loadAt_mid w b o 59 [U s.a, U s.b, U s.c, U s.d] _ (fun j v hv => ?_) Try.underlying59 rfl (by kernel_rfl)
  match j, hv with
  | 0, hv => simp at hv; subst hv; exact ca
  | 1, hv => simp at hv; subst hv; exact cb
  | 2, hv => simp at hv; subst hv; exact cc
  | 3, hv => simp at hv; subst hv; exact cd
theorem run_alloc59 (w : World) : (Instr.alloc 59 true (.tuple #[])).run Try.prog w = .ok (.pointer (some ⟨w.heap.size, 0, none⟩)) (w.alloc (.cells #[.int .u32 0, .int .u32 0, .int .u32 0, .int .u32 0] 59)) := by
  simp [go_sem]

theorem run_slice59 (g : Nat) (w : World) : (Instr.sliceAt 59 (.pointer (some ⟨g, 0, none⟩)) none none none).run Try.prog w = .ok (.slice (some ⟨g, 0, none⟩) 4 4) w := by
  simp [go_sem]

set_option maxRecDepth 100000 in
set_option maxHeartbeats 2000000 in
theorem implBlock_any (hv pv : Value) (s : Md.St) (bs : List UInt8) (w : World) (h1 : Words w hv (stL s)) (h : Reads w pv bs) (hl : bs.length ≤ 140737488351232) :
    Calls Try.prog 21 #[hv, pv] w fun e w' => ∃ v, e = .returned v ∧ Words w' v (stL (Md.blks s bs)) ∧ Below w.heap.size w w' := by
  obtain ⟨a1, c1, rfl, d1, _, g1⟩ := h1
  obtain ⟨b1, o1, rfl, k1⟩ := g1 (by simp [stL])
  have ca : w.cell? ⟨b1, o1, none⟩ = some (U s.a) := k1 0 (by simp [stL])
  have cb : w.cell? ⟨b1, o1 + 1, none⟩ = some (U s.b) := k1 1 (by simp [stL])
  have cc : w.cell? ⟨b1, o1 + 2, none⟩ = some (U s.c) := k1 2 (by simp [stL])
  have cd : w.cell? ⟨b1, o1 + 3, none⟩ = some (U s.d) := k1 3 (by simp [stL])
  have hb1 : b1 < w.heap.size := World.block_lt_of_cell? w _ ca
  have hlen : (stL s).length = 4 := rfl
  rw [hlen] at d1 ⊢
  clear g1 k1 hlen
  go_enter Try.func21, Try.ntmps21
  go_wp2_with fail
  refine wp_region_mono 7 RB (Vib w.heap.size b1 o1 c1 pv s bs) hm (by kernel_rfl) 16 (by rfl) (by kernel_rfl) RB.refl (fun _ _ _ => RB.trans) Vib.keep ?_ ?_
  · refine ⟨?_, ?_, ?_, ?_, ?_, ?_, ?_, trivial⟩
    · intro a w1 hs hd hr h1 h2
      exact m_val rfl rfl (e_move (h1 0 (by kernel_rfl)) w1) rfl (RB.refl _) rfl
    · intro a w1 hs hd hr h1 h2
      refine m_val (v := .pointer (some ⟨b1, o1, none⟩)) rfl rfl ?_ rfl (RB.refl _) rfl
      have e := h2 0 9 (by kernel_rfl)
      simp only [Vib] at e
      simp only [execOp, e, Sem.run_bind, run_arrayAt59, Result.andThen_ok, Sem.run_pure]
    · intro a w1 hs hd hr h1 h2
      refine m_val (v := aggS s) rfl rfl ?_ rfl (RB.refl _) rfl
      have e := h2 1 10 (by kernel_rfl)
      simp only [Vib] at e
      have cl : ∀ k, w1.cell? ⟨b1, k, none⟩ = w.cell? ⟨b1, k, none⟩ := fun k => Below.cell (p := ⟨b1, k, none⟩) hr hb1
      simp only [execOp, e, Sem.run_bind, run_load59 ((cl _).trans ca) ((cl _).trans cb) ((cl _).trans cc) ((cl _).trans cd), Result.andThen_ok, Sem.run_pure]
    · intro a w1 hs hd hr h1 h2
      exact m_val rfl rfl (e_move (h1 1 (by kernel_rfl)) w1) rfl (RB.refl _) rfl
    · intro a w1 hs hd hr h1 h2
      have e := h2 3 12 (by kernel_rfl)
      simp only [Vib] at e
      refine m_call rfl rfl Try.func36 hb36 hn36 #[pv] (by simp only [List.map_toArray, List.map_cons, List.map_nil, e]) ?_
      have hR1 : Reads w1 pv bs := h.below hr.drew
      refine (copied_any pv bs w1 hR1 (by omega)).mono ?_
      rintro e1 w2 ⟨v', rfl, h3, h4⟩
      exact ⟨v', rfl, h3.mono hr.size, h4⟩
    · intro a w1 hs hd hr h1 h2
      have e1 := h2 2 11 (by kernel_rfl)
      have e2 := h2 4 13 (by kernel_rfl)
      simp only [Vib] at e1 e2
      refine m_call rfl rfl Try.func39 hb39 hn39 #[aggS s, a.eval (.tmp 13)] (by simp only [List.map_toArray, List.map_cons, List.map_nil, e1]) ?_
      refine (zzBlock_any s _ bs w1 e2.reads).mono ?_
      rintro e3 w2 ⟨rfl, h3⟩
      exact ⟨_, rfl, rfl, h3⟩
    · intro a w1 hs hd hr h1 h2
      refine m_val (v := .pointer (some ⟨w1.heap.size, 0, none⟩)) (w' := w1.alloc (.cells #[.int .u32 0, .int .u32 0, .int .u32 0, .int .u32 0] 59)) rfl rfl ?_ ⟨w1.heap.size, rfl, hr.size, _, _, _, _, heap_alloc_at w1 _ _ rfl⟩ ((Below.refl _ _).alloc (Nat.le_refl _) _) rfl
      simp only [execOp, Sem.run_bind, run_alloc59, Result.andThen_ok, Sem.run_pure]
  · intro a w1 hs hd hr h1 h2
    have e1 := h2 5 14 (by kernel_rfl)
    have e2 := h2 6 5 (by kernel_rfl)
    simp only [Vib] at e1 e2
    obtain ⟨g, e2, hg, x0, x1, x2, x3, hx⟩ := e2
    refine wpList_store_mid rfl 59 (.tmp 5) (.tmp 14) rfl g 0 #[U (Md.blks s bs).a, U (Md.blks s bs).b, U (Md.blks s bs).c, U (Md.blks s bs).d] e2 e1 ?_ (by kernel_rfl) (by simp [Value.oneCell']) ?_
    · intro j hj
      have hj : j < 4 := hj
      have := cell_of hx j hj
      rw [Nat.zero_add]
      exact ⟨by rw [this.1.choose_spec]; rfl, this.2⟩
    · refine wpList_nil ?_
      go_step
      go_step
      rw [put_none]
      have e3 : a.eval (.tmp 5) = .pointer (some ⟨g, 0, none⟩) := e2
      refine wp_seq (wp_region_lit ?_)
      refine s_run (v := .slice (some ⟨g, 0, none⟩) 4 4) (w' := w1.setCells g 0 [U (Md.blks s bs).a, U (Md.blks s bs).b, U (Md.blks s bs).c, U (Md.blks s bs).d]) rfl ?_ ?_
      · simp only [execOp, e3, Option.map_none, Sem.run_bind, run_slice59, Result.andThen_ok, Sem.run_pure]
      refine s_as (eval_put_same _ _ _ (by rw [show a.tmps.size = 16 from hs]; omega)) ?_
      refine wpList_nil (show Code.wp Try.prog _ _ _ _ from wp_ret ?_)
      have hs' : a.tmps.size = 16 := hs
      have e4 : ∀ X : Value, (((a.put (some 15) X).put (some 4) X).tmps.getD 4 undef) = X := fun X => eval_put_same _ _ _ (by simp only [size_put]; omega)
      refine bodyPost_ret (results_tmp (t := 4) rfl _ _ _) (by simp only [defers_put]; exact hd) ⟨_, congrArg Ending.returned (e4 _), ⟨some ⟨g, 0, none⟩, 4, rfl, Nat.le_refl _, by unfold maxLen; omega, fun _ => ⟨g, 0, rfl, fun j hj => ?_⟩⟩, ?_⟩
      · have hj : j < 4 := hj
        have ht : ∀ i, i < 4 → (w1.cell? ⟨g, 0 + i, none⟩).isSome = true := fun i hi => by
          have := cell_of hx i hi
          rw [Nat.zero_add, this.1.choose_spec]; rfl
        rw [World.cell?_setCells_in g [U (Md.blks s bs).a, U (Md.blks s bs).b, U (Md.blks s bs).c, U (Md.blks s bs).d] 0 w1 ht j hj]
        match j, hj with
        | 0, _ => rfl
        | 1, _ => rfl
        | 2, _ => rfl
        | 3, _ => rfl
      · exact below_of_grown hr.drew (grown_setCells g _ 0 w1) hg
end Go.Proofs.Ytkjapcmnopnblaa
