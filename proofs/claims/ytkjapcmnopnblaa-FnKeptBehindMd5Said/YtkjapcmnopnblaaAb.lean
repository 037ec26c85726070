/- AppendBinary: a digest's bytes behind others. -/
import Derived.Test.YtkjapcmnopnblaaMb
import Derived.Test.YtkjapcmnopnblaaOq
namespace Go.Proofs.Ytkjapcmnopnblaa
open Go.RowKit
set_option linter.unusedVariables false

theorem s_appS {w : World} {ops : Array Oper} {Q : Exit → Act → World → Prop} {a : Act} {rest : List Oper} {d : Option Tmp} {x y : Operand} {ty : TypeId} {pos : String} {af : Array Edge}
    {base : Nat} {v : Value} {bs cs : List UInt8} (hx : a.eval x = v) (hy : a.eval y = strB cs) (ho : Owns w base v bs) (hsz : bs.length + cs.length ≤ 140737488355328) (hbase : base ≤ w.heap.size)
    (h : ∀ v' w', Owns w' base v' (bs ++ cs) → Below base w w' → wpList Try.prog ops Q rest (a.put d v') w') :
    wpList Try.prog ops Q ({ dst := d, op := .call { callee := .builtin .append, args := #[x, y], argTypes := #[24, 9] }, type := ty, pos := pos, after := af, guard := none } :: rest) a w := by
  obtain ⟨v', w', hrun, h1, h2⟩ := run_appS ty ho hsz hbase
  refine s_run rfl ?_ (h v' w' h1 (below_own ho hbase h2))
  simp only [Go.BigFrame.execOp_builtin, Go.BigFrame.builtin_append, List.map_toArray, List.map_cons, List.map_nil, hx, hy, Sem.run_bind, hrun, Result.andThen_ok, Sem.run_pure]
theorem s_appZ {w : World} {ops : Array Oper} {Q : Exit → Act → World → Prop} {a : Act} {rest : List Oper} {d : Option Tmp} {x y : Operand} {ty : TypeId} {pos : String} {af : Array Edge}
    {base : Nat} {v : Value} {bs : List UInt8} (k : Nat) (hx : a.eval x = v) (hy : a.eval y = .int .i64 (k : Int)) (ho : Owns w base v bs) (hk : 0 < k) (hsz : bs.length + k ≤ 1000000) (hbase : base ≤ w.heap.size)
    (h : ∀ v' w', Owns w' base v' (bs ++ List.replicate k 0) → Below base w w' → wpList Try.prog ops Q rest (a.put d v') w') :
    wpList Try.prog ops Q ({ dst := d, op := .call { callee := .builtin .append, args := #[x, y], argTypes := #[24, 3] }, type := ty, pos := pos, after := af, guard := none } :: rest) a w := by
  obtain ⟨v', w', hrun, h1, h2⟩ := run_appZ ty ho k hk hsz hbase
  refine s_run rfl ?_ (h v' w' h1 (below_own ho hbase h2))
  simp only [Go.BigFrame.execOp_builtin, Go.BigFrame.builtin_append, List.map_toArray, List.map_cons, List.map_nil, hx, hy, Sem.run_bind, hrun, Result.andThen_ok, Sem.run_pure]
theorem s_appB {w : World} {ops : Array Oper} {Q : Exit → Act → World → Prop} {a : Act} {rest : List Oper} {d : Option Tmp} {x y : Operand} {ty : TypeId} {pos : String} {af : Array Edge}
    {base : Nat} {v sv : Value} {bs cs : List UInt8} (hx : a.eval x = v) (hy : a.eval y = sv) (ho : Owns w base v bs) (hr : Reads w sv cs)
    (hsz : bs.length + cs.length ≤ 140737488355328) (hbase : base ≤ w.heap.size)
    (h : ∀ v' w', Owns w' base v' (bs ++ cs) → Below base w w' → wpList Try.prog ops Q rest (a.put d v') w') :
    wpList Try.prog ops Q ({ dst := d, op := .call { callee := .builtin .append, args := #[x, y], argTypes := #[24, 24] }, type := ty, pos := pos, after := af, guard := none } :: rest) a w :=
  s_app hx hy ho hr hsz hbase (fun v' w' h1 h2 _ => h v' w' h1 (below_own ho hbase h2))
theorem Dig.keep {w w' : World} {g base : Nat} {s : Md.St} {xs : List UInt8} {nx ln : Nat} (h : Dig w g s xs nx ln) (hb : Below base w w') (hg : g < base) : Dig w' g s xs nx ln := h.of_heap (hb.block g hg)

theorem run_sl76h (g l : Nat) (hl : l ≤ 64) (w : World) : (Instr.sliceAt 76 (.pointer (some ⟨g, 4, none⟩)) none (some (.int .i64 (l : Int))) none).run Try.prog w = .ok (.slice (some ⟨g, 4, none⟩) l 64) w := by
  have q : (l : Int) ≤ 64 := by omega
  simp [go_sem, q]
theorem e_sl76h {a : Act} {d : Option Tmp} {x y : Operand} {ty : TypeId} {pos : String} {af : Array Edge} {g l : Nat} (hl : l ≤ 64) (hx : a.eval x = .pointer (some ⟨g, 4, none⟩)) (hy : a.eval y = .int .i64 (l : Int)) (w : World) :
    (execOp a.eval { dst := d, op := .slice 76 x none (some y) none, type := ty, pos := pos, after := af, guard := none }).run Try.prog w = .ok (.value (.slice (some ⟨g, 4, none⟩) l 64)) w := by
  simp only [execOp, hx, hy, Option.map_some, Option.map_none, Sem.run_bind, run_sl76h g l hl, Result.andThen_ok, Sem.run_pure]
/-- The values of AppendBinary's region 6. -/
def V43 (g : Nat) (v1 : Value) (nx : Nat) (j : Nat) (v : Value) (_ : World) : Prop :=
  match j with
  | 0 => v = v1
  | 3 => v = .pointer (some ⟨g, 4, none⟩)
  | 6 => v = .pointer (some ⟨g, 68, none⟩)
  | 7 => v = .int .i64 (nx : Int)
  | 8 => v = .slice (some ⟨g, 4, none⟩) nx 64
  | _ => v = .pointer (some ⟨g, 0, none⟩)
noncomputable def code43 : Code := match Try.f43.body with | some c => c | none => .ret
noncomputable def tail43 : Code := seqR (seqR (seqR (seqR (seqR (seqR (seqR code43))))))
noncomputable def r643 : Code := seqL (seqR (seqR (seqR (seqR (seqR (seqR code43))))))

set_option maxRecDepth 100000 in
set_option maxHeartbeats 4000000 in
theorem ab_tail {g base nx ln : Nat} {v : Value} {bs xs T : List UInt8} {s : Md.St} {w0 w : World} {a : Act} (hs : a.tmps.size = 60) (hd : a.defers = []) (e0 : a.eval (.tmp 0) = .pointer (some ⟨g, 0, none⟩)) (e1 : a.eval (.tmp 1) = v)
    (hO : Owns w base v bs) (hD : Dig w g s xs nx ln) (hB : Below base w0 w) (hg : g < base) (hbase : base ≤ w0.heap.size) (hnx : nx < 64) (hl : bs.length ≤ 500000) (hln : ln < 18446744073709551616) (hT : bs ++ List.replicate (64 - nx) 0 ++ Md.be64 ln = T) :
    tail43.wp Try.prog (bodyPost Try.prog Try.f43 fun e w' => ∃ v', e = .returned (.tuple #[v', .nilIface]) ∧ Owns w' base v' T ∧ Below base w0 w') a w := by
  revert e0 e1
  refine open60 (fun a => a.eval (.tmp 0) = .pointer (some ⟨g, 0, none⟩) → a.eval (.tmp 1) = v → tail43.wp Try.prog (bodyPost Try.prog Try.f43 fun e w' => ∃ v', e = .returned (.tuple #[v', .nilIface]) ∧ Owns w' base v' T ∧ Below base w0 w') a w) ?_ a hs hd
  intro u0 u1
  intros
  rename_i e0 e1
  have f0 : u0 = _ := e0
  clear e0
  have f1 : u1 = _ := e1
  clear e1
  subst f0 f1
  have L := hD.nx
  have HO := Lib.hid hO
  have HD := Lib.hid hD
  have HB := Lib.hid hB
  have HL := Lib.hid hl
  have HBASE := Lib.hid hbase
  have HT := Lib.hid hT
  have q1 : (nx : Int) ≤ 64 := by omega
  clear hO hD hB hl hbase hT
  conv => arg 2; whnf
  go_wp2_with (refine stand_app ?_)
  refine go_on (s_appZ (v := u1) (bs := bs) (64 - nx) rfl (congrArg (Value.int .i64) (show (64 : Int) - (nx : Int) = ((64 - nx : Nat) : Int) by omega)) HO.out (by omega) (by have := HL.out; omega) (Nat.le_trans HBASE.out HB.out.size) (fun v2 w2 o2 b2 => ?_))
  have D2 := Lib.hid (HD.out.keep b2 hg)
  have L2 := D2.out.ln
  have O2 := Lib.hid o2
  have B2 := Lib.hid (Below.trans HB.out b2)
  clear o2 b2
  go_wp2_with fail
  refine (beApp64_any v2 (bs ++ List.replicate (64 - nx) 0) ln hln base w2 O2.out (Nat.le_trans HBASE.out B2.out.size) (by have := HL.out; simp; omega)).mono ?_
  rintro e w3 ⟨v3, rfl, o3, b3⟩
  rw [HT.out] at o3
  have O3 := Lib.hid o3
  have B3 := Lib.hid (Below.trans B2.out b3)
  clear o3 b3
  go_wp2_with fail
  go_ret2
  exact ⟨_, rfl, O3.out, B3.out⟩

set_option maxRecDepth 100000 in
set_option maxHeartbeats 4000000 in
theorem appendBinary_any (g base : Nat) (v : Value) (bs m : List UInt8) (w : World) (h : Rep w g m) (hO : Owns w base v bs) (hg : g < base) (hbase : base ≤ w.heap.size) (hl : bs.length ≤ 100000) (hlm : m.length < 18446744073709551616) :
    Calls Try.prog 43 #[.pointer (some ⟨g, 0, none⟩), v] w fun e w' => ∃ v', e = .returned (.tuple #[v', .nilIface]) ∧ Owns w' base v' (bs ++ Md.kept m) ∧ Below base w w' := by
  obtain ⟨s, xs, nx, hD, hP⟩ := h
  obtain ⟨k, hk⟩ : ∃ k, k = m.length := ⟨_, rfl⟩
  rw [← hk] at hD hlm
  have hnx : nx < 64 := by rw [hP.ix]; omega
  have HD := Lib.hid hD
  have HP := Lib.hid hP
  have HK := Lib.hid hk
  have HL := Lib.hid hl
  have HBASE := Lib.hid hbase
  have HO := Lib.hid hO
  have HM := Lib.hid hlm
  clear hD hP hk hl hbase hO hlm
  go_enter Try.func43, Try.ntmps43
  refine (show Code.wp Try.prog (.seq (seqL code43) (.seq (seqL (seqR code43)) (.seq (seqL (seqR (seqR code43))) (.seq (seqL (seqR (seqR (seqR code43)))) (.seq (seqL (seqR (seqR (seqR (seqR code43))))) (.seq (seqL (seqR (seqR (seqR (seqR (seqR code43)))))) (.seq r643 tail43))))))) _ _ _ from ?_)
  refine wp_seq ?_
  conv => arg 2; whnf
  go_wp2_with fail
  conv => arg 2; whnf
  go_wp2_with (refine stand_app ?_)
  refine go_on (s_appS (v := v) (bs := bs) (cs := [109, 100, 53, 1]) rfl rfl HO.out (by have := HL.out; simp; omega) HBASE.out (fun v1 w1 o1 b1 => ?_))
  have D1 := Lib.hid (HD.out.keep b1 hg)
  have O1 := Lib.hid o1
  have B1 := Lib.hid b1
  clear o1 b1
  go_wp2_with fail
  have L1 := D1.out.a
  conv => arg 2; whnf
  go_wp2_with fail
  refine (beApp32_any v1 (bs ++ [109, 100, 53, 1]) s.a base w1 O1.out (Nat.le_trans HBASE.out B1.out.size) (by have := HL.out; simp; omega)).mono ?_
  rintro e w2 ⟨v2, rfl, o2, b2⟩
  have D2 := Lib.hid (D1.out.keep b2 hg)
  have O2 := Lib.hid o2
  have B2 := Lib.hid (Below.trans B1.out b2)
  clear o2 b2
  go_wp2_with fail
  have L2 := D2.out.b
  conv => arg 2; whnf
  go_wp2_with fail
  refine (beApp32_any v2 (bs ++ [109, 100, 53, 1] ++ Md.be32 s.a) s.b base w2 O2.out (Nat.le_trans HBASE.out B2.out.size) (by have := HL.out; simp [Md.be32]; omega)).mono ?_
  rintro e w3 ⟨v3, rfl, o3, b3⟩
  have D3 := Lib.hid (D2.out.keep b3 hg)
  have O3 := Lib.hid o3
  have B3 := Lib.hid (Below.trans B2.out b3)
  clear o3 b3
  go_wp2_with fail
  have L3 := D3.out.c
  conv => arg 2; whnf
  go_wp2_with fail
  refine (beApp32_any v3 (bs ++ [109, 100, 53, 1] ++ Md.be32 s.a ++ Md.be32 s.b) s.c base w3 O3.out (Nat.le_trans HBASE.out B3.out.size) (by have := HL.out; simp [Md.be32]; omega)).mono ?_
  rintro e w4 ⟨v4, rfl, o4, b4⟩
  have D4 := Lib.hid (D3.out.keep b4 hg)
  have O4 := Lib.hid o4
  have B4 := Lib.hid (Below.trans B3.out b4)
  clear o4 b4
  go_wp2_with fail
  have L4 := D4.out.d
  conv => arg 2; whnf
  go_wp2_with fail
  refine (beApp32_any v4 (bs ++ [109, 100, 53, 1] ++ Md.be32 s.a ++ Md.be32 s.b ++ Md.be32 s.c) s.d base w4 O4.out (Nat.le_trans HBASE.out B4.out.size) (by have := HL.out; simp [Md.be32]; omega)).mono ?_
  rintro e w5 ⟨v5, rfl, o5, b5⟩
  have D5 := Lib.hid (D4.out.keep b5 hg)
  have O5 := Lib.hid o5
  have B5 := Lib.hid (Below.trans B4.out b5)
  clear o5 b5
  go_wp2_with fail
  have L5 := D5.out.nx
  conv => arg 2; whnf
  refine wp_region_mono 9 Dr (V43 g v5 nx) hm (by kernel_rfl) 60 (by rfl) (by kernel_rfl) Dr.refl (fun _ _ _ => Dr.trans) (fun _ _ _ _ h _ => h) ?_ ?_
  · refine ⟨?_, ?_, ?_, ?_, ?_, ?_, ?_, ?_, ?_, trivial⟩
    · intro a w1 hs hd hr h1 h2
      exact m_val rfl rfl (e_move (h1 1 (by kernel_rfl)) w1) rfl (Dr.refl _) rfl
    · intro a w1 hs hd hr h1 h2
      exact m_val rfl rfl (e_move (h1 0 (by kernel_rfl)) w1) rfl (Dr.refl _) rfl
    · intro a w1 hs hd hr h1 h2
      exact m_val rfl rfl (e_nil (h2 1 37 (by kernel_rfl)) w1) rfl (Dr.refl _) rfl
    · intro a w1 hs hd hr h1 h2
      exact m_val rfl rfl (e_fa1 (h2 2 38 (by kernel_rfl)) w1) rfl (Dr.refl _) rfl
    · intro a w1 hs hd hr h1 h2
      exact m_val rfl rfl (e_move (h1 0 (by kernel_rfl)) w1) rfl (Dr.refl _) rfl
    · intro a w1 hs hd hr h1 h2
      exact m_val rfl rfl (e_nil (h2 4 40 (by kernel_rfl)) w1) rfl (Dr.refl _) rfl
    · intro a w1 hs hd hr h1 h2
      exact m_val rfl rfl (e_fa2 (h2 5 41 (by kernel_rfl)) w1) rfl (Dr.refl _) rfl
    · intro a w1 hs hd hr h1 h2
      exact m_val rfl rfl (e_ld3 (h2 6 42 (by kernel_rfl)) w1 ((hr.cell _).trans L5)) rfl (Dr.refl _) rfl
    · intro a w1 hs hd hr h1 h2
      exact m_val rfl rfl (e_sl76h (by omega) (h2 3 39 (by kernel_rfl)) (h2 7 43 (by kernel_rfl)) w1) rfl (Dr.refl _) rfl
  · intro a w6 hs hd hr h1 h2
    have hdr : Dr w5 w6 := Dr.trans ⟨1, rfl⟩ hr
    have b6 : Below base w w6 := Below.trans B5.out (below_dr hdr)
    have hs' : a.tmps.size = 60 := hs
    have hrd : Reads w6 (.slice (some ⟨g, 4, none⟩) nx 64) (xs.take nx) := by
      have h := (dig_reads (D5.out.dr hdr))
      have hx := D5.out.len
      have h3 : Reads w6 (.slice (some ⟨g, 4, none⟩) xs.length 64) xs := by rw [hx]; exact h
      exact h3.upto nx (by omega)
    refine s_appB (v := v5) (bs := bs ++ [109, 100, 53, 1] ++ Md.be32 s.a ++ Md.be32 s.b ++ Md.be32 s.c ++ Md.be32 s.d) (cs := xs.take nx) (h2 0 36 (by kernel_rfl)) (h2 8 44 (by kernel_rfl)) (O5.out.dr hdr) hrd (by have := HL.out; simp [Md.be32]; omega) (Nat.le_trans HBASE.out b6.size) (fun v7 w7 o7 b7 => ?_)
    refine s_as (v := v7) (eval_put_same _ _ _ (by omega)) ?_
    refine wpList_nil ?_
    go_step
    go_step
    have d7 := (D5.out.dr hdr).keep b7 hg
    refine ab_tail (g := g) (base := base) (v := v7) (w0 := w) ?_ ?_ ?_ ?_ o7 d7 (Below.trans b6 b7) hg HBASE.out hnx (by have := HL.out; simp [Md.be32]; omega) HM.out ?_
    · simp only [size_put]; exact hs'
    · simp only [defers_put]; exact hd
    · exact (eval_put_other _ _ _ _ (by omega)).trans ((eval_put_other _ _ _ _ (by omega)).trans (h1 0 (by kernel_rfl)))
    · exact eval_put_same _ _ _ (by simp only [size_put]; omega)
    · unfold Md.kept Md.beS
      rw [← HP.out.st, HP.out.tail, HP.out.ix, ← HK.out]
      simp only [List.append_assoc]
end Go.Proofs.Ytkjapcmnopnblaa
