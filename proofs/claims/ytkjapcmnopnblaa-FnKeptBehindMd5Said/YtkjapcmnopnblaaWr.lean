/- Write: a digest takes bytes up. -/
import Derived.Test.YtkjapcmnopnblaaDg
namespace Go.Proofs.Ytkjapcmnopnblaa
open Go.RowKit
set_option linter.unusedVariables false

theorem stand_copy {P : Program} {ops : Array Oper} {Q : Exit → Act → World → Prop} {a : Act} {w : World} {rest : List Oper} {d : Option Tmp} {xs : Array Operand} {ats : Array TypeId} {ty : TypeId} {pos : String} {af : Array Edge} {gd : Option (Nat × Bool)}
    (h : Stand (wpList P ops Q ({ dst := d, op := .call { callee := .builtin .copy, args := xs, argTypes := ats }, type := ty, pos := pos, after := af, guard := gd } :: rest) a w)) :
    wpList P ops Q ({ dst := d, op := .call { callee := .builtin .copy, args := xs, argTypes := ats }, type := ty, pos := pos, after := af, guard := gd } :: rest) a w := by
  unfold Stand at h; exact h
theorem s_copyx {w : World} {ops : Array Oper} {Q : Exit → Act → World → Prop} {a : Act} {rest : List Oper} {d : Option Tmp} {x y : Operand} {ty : TypeId} {pos : String} {af : Array Edge}
    {g : Nat} {s : Md.St} {xs : List UInt8} {nx ln : Nat} {pv : Value} {bs : List UInt8} (o c : Nat) (hx : a.eval x = .slice (some ⟨g, 4 + o, none⟩) (64 - o) c) (hy : a.eval y = pv)
    (hD : Dig w g s xs nx ln) (ho : o ≤ 64) (hR : Reads w pv bs)
    (h : ∀ w', Dig w' g s (xs.take o ++ bs.take (64 - o) ++ xs.drop (o + min (64 - o) bs.length)) nx ln → w.grownBy w' (some g) → wpList Try.prog ops Q rest (a.put d (.int .i64 ((min (64 - o) bs.length : Nat) : Int))) w') :
    wpList Try.prog ops Q ({ dst := d, op := .call { callee := .builtin .copy, args := #[x, y], argTypes := #[24, 24] }, type := ty, pos := pos, after := af, guard := none } :: rest) a w := by
  obtain ⟨w', hrun, h1, h2⟩ := run_copyx hD o ho hR ty c
  refine s_run rfl ?_ (h w' h1 h2)
  simp only [Go.BigFrame.execOp_builtin, Go.BigFrame.builtin_copy, List.map_toArray, List.map_cons, List.map_nil, hx, hy, Sem.run_bind, hrun, Result.andThen_ok, Sem.run_pure]

/-- The frame of Write between its parts. -/
structure Fr37 (a : Act) (g : Nat) (pv : Value) (n : Nat) : Prop where
  size : a.tmps.size = 106
  defers : a.defers = []
  e0 : a.eval (.tmp 0) = .pointer (some ⟨g, 0, none⟩)
  e1 : a.eval (.tmp 1) = pv
  e4 : a.eval (.tmp 4) = .int .i64 (n : Int)
  e5 : a.eval (.tmp 5) = .nilIface
/-- What Write ends in. -/
def Post37 (g : Nat) (M : List UInt8) (n ln : Nat) (w0 : World) (e : Ending) (w' : World) : Prop :=
  e = .returned (.tuple #[.int .i64 (n : Int), .nilIface]) ∧ (∃ s xs nx, Dig w' g s xs nx ln ∧ Md.Rp s xs nx M) ∧ w0.grownBy w' (some g)
noncomputable def code37 : Code := match Try.f37.body with | some c => c | none => .ret
noncomputable def codeC37 : Code := seqR (seqR (seqR (seqR (seqR code37))))
noncomputable def codeB37 : Code := seqR (seqR (seqR (seqR code37)))

set_option maxRecDepth 100000 in
set_option maxHeartbeats 4000000 in
theorem wr_c {g n ln : Nat} {pv : Value} {m bs : List UInt8} {s : Md.St} {xs : List UInt8} {nx : Nat} {w0 w : World} {a : Act} (hF : Fr37 a g pv n)
    (hD : Dig w g s xs nx ln) (hP : Md.Rp s xs nx m) (hR : Reads w pv bs) (hg : w0.grownBy w (some g)) (hx : bs = [] ∨ nx = 0) (hl : bs.length < 64) :
    codeC37.wp Try.prog (bodyPost Try.prog Try.f37 (Post37 g (m ++ bs) n ln w0)) a w := by
  obtain ⟨hs, hd, e0, e1, e4, e5⟩ := hF
  revert e0 e1 e4 e5
  refine open106 (fun a => a.eval (.tmp 0) = .pointer (some ⟨g, 0, none⟩) → a.eval (.tmp 1) = pv → a.eval (.tmp 4) = .int .i64 (n : Int) → a.eval (.tmp 5) = .nilIface → codeC37.wp Try.prog (bodyPost Try.prog Try.f37 (Post37 g (m ++ bs) n ln w0)) a w) ?_ a hs hd
  intro u0 u1 u2 u3 u4 u5
  intros
  rename_i e0 e1 e4 e5
  have f0 : u0 = _ := e0
  clear e0
  have f1 : u1 = _ := e1
  clear e1
  have f4 : u4 = _ := e4
  clear e4
  have f5 : u5 = _ := e5
  clear e5
  subst f0 f1 f4 f5
  obtain ⟨ad, c, rfl, hc, hm, _⟩ := id hR
  have HD := Lib.hid hD
  have HP := Lib.hid hP
  have HR := Lib.hid hR
  have HG := Lib.hid hg
  have q : bs.length ≤ 9223372036854775807 := by omega
  clear hD hP hR hg
  conv => arg 2; whnf
  by_cases h0 : bs.length = 0
  · rw [h0] at HR ⊢
    have q2 : ¬ (0 : Int) < ((0 : Nat) : Int) := by omega
    go_wp2_with fail
    go_ret2
    refine ⟨rfl, ⟨s, xs, nx, HD.out, ?_⟩, HG.out⟩
    have h := HP.out
    rw [List.eq_nil_of_length_eq_zero h0, List.append_nil]
    exact h
  · have q2 : (0 : Int) < (bs.length : Int) := by omega
    obtain rfl : nx = 0 := by
      rcases hx with rfl | hx
      · exact absurd rfl h0
      · exact hx
    obtain ⟨k, hk⟩ : ∃ k, k = bs.length := ⟨_, rfl⟩
    rw [← hk] at hc q q2 hl ⊢
    have HK := Lib.hid hk
    clear hk hx h0
    go_wp2_with (refine stand_copy ?_)
    refine go_on (s_copyx 0 64 rfl rfl HD.out (Nat.zero_le _) (pv := .slice ad k c) (bs := bs) (by have h := HR.out; rw [← HK.out] at h; exact h) (fun w1 d1 g1 => ?_))
    rw [← HK.out] at d1 ⊢
    have L := d1.nx
    have F := d1.free 68
    have D1 := Lib.hid d1
    have G1 := Lib.hid g1
    clear d1 g1
    go_wp2_with fail
    go_ret2
    refine ⟨rfl, ⟨s, _, _, dig_nx D1.out (min 64 k), ?_⟩, grown_trans (grown_trans HG.out G1.out) (grown_setCell _ _ _ _)⟩
    have h := Md.rp_fill HP.out bs (by rw [← HK.out]; omega)
    rw [← HK.out] at h
    rw [List.take_of_length_le (l := bs) (by rw [← HK.out]; omega), show min 64 k = k by omega]
    simpa using h

theorem stand_slice {P : Program} {ops : Array Oper} {Q : Exit → Act → World → Prop} {a : Act} {w : World} {rest : List Oper} {d : Option Tmp} {x : Operand} {lo hi mx : Option Operand} {ty : TypeId} {pos : String} {af : Array Edge} {gd : Option (Nat × Bool)}
    (h : Stand (wpList P ops Q ({ dst := d, op := .slice 24 x lo hi mx, type := ty, pos := pos, after := af, guard := gd } :: rest) a w)) :
    wpList P ops Q ({ dst := d, op := .slice 24 x lo hi mx, type := ty, pos := pos, after := af, guard := gd } :: rest) a w := by
  unfold Stand at h; exact h
theorem s_from {w : World} {ops : Array Oper} {Q : Exit → Act → World → Prop} {a : Act} {rest : List Oper} {d : Option Tmp} {x y : Operand} {ty : TypeId} {pos : String} {af : Array Edge}
    {ad : Option Addr} {c n : Nat} {bs : List UInt8} (l : Nat) (hx : a.eval x = .slice ad n c) (hy : a.eval y = .int .i64 (l : Int)) (hn : n = bs.length) (hR : Reads w (.slice ad n c) bs) (hl : l ≤ n)
    (h : ∀ ad' c', Reads w (.slice ad' (n - l) c') (bs.drop l) → (∀ k, Value.ownBlock (.slice ad' (n - l) c') = some k → Value.ownBlock (.slice ad n c) = some k) → wpList Try.prog ops Q rest (a.put d (.slice ad' (n - l) c')) w) :
    wpList Try.prog ops Q ({ dst := d, op := .slice 24 x (some y) none none, type := ty, pos := pos, after := af, guard := none } :: rest) a w := by
  subst hn
  obtain ⟨_, _, e, h1, h2, _⟩ := id hR
  injection e with e1 e2 e3
  subst e1 e3
  have q1 : (l : Int) ≤ (bs.length : Int) := by omega
  have h3 := hR.from l hl
  refine s_run rfl (v := .slice (if c = l then ad else ad.map (·.add l)) (bs.length - l) (c - l)) ?_ (h _ _ h3 ?_)
  · simp only [execOp, hx, hy, Option.map_some, Option.map_none, Sem.run_bind]
    by_cases hc : c = l
    · subst hc
      simp [go_sem, q1]
    · simp [go_sem, q1, hc]
  · intro k hk
    by_cases hc : c = l
    · rw [if_pos hc] at hk
      cases ad with
      | none => exact hk
      | some b => exact hk
    · rw [if_neg hc] at hk
      cases ad with
      | none => exact hk
      | some b =>
        have e : (b.add l).block = b.block := by unfold Addr.add; split <;> rfl
        have e2 : Value.ownBlock (.slice (some (b.add l)) (bs.length - l) (c - l)) = some k := hk
        simp only [Value.ownBlock, e] at e2
        exact e2
theorem s_upto {w : World} {ops : Array Oper} {Q : Exit → Act → World → Prop} {a : Act} {rest : List Oper} {d : Option Tmp} {x y : Operand} {ty : TypeId} {pos : String} {af : Array Edge}
    {ad : Option Addr} {c n : Nat} {bs : List UInt8} (l : Nat) (hx : a.eval x = .slice ad n c) (hy : a.eval y = .int .i64 (l : Int)) (hn : n = bs.length) (hR : Reads w (.slice ad n c) bs) (hl : l ≤ n)
    (h : Reads w (.slice ad l c) (bs.take l) → wpList Try.prog ops Q rest (a.put d (.slice ad l c)) w) :
    wpList Try.prog ops Q ({ dst := d, op := .slice 24 x none (some y) none, type := ty, pos := pos, after := af, guard := none } :: rest) a w := by
  subst hn
  obtain ⟨_, _, e, h1, h2, _⟩ := id hR
  injection e with e1 e2 e3
  subst e1 e3
  have q1 : (l : Int) ≤ (c : Int) := by omega
  refine s_run rfl (v := .slice ad l c) ?_ (h (hR.upto l hl))
  simp only [execOp, hx, hy, Option.map_some, Option.map_none, Sem.run_bind]
  simp [go_sem, q1]


theorem nat_hi6 (k : Nat) (h : k < 2 ^ 64) : k &&& 18446744073709551552 = k / 64 * 64 := by
  have e1 : (18446744073709551552 : Nat) = (2 ^ 58 - 1) <<< 6 := by decide
  have e2 : k / 64 * 64 = (k >>> 6) <<< 6 := by rw [Nat.shiftRight_eq_div_pow, Nat.shiftLeft_eq]
  rw [e1, e2]
  apply Nat.eq_of_testBit_eq
  intro i
  rw [Nat.testBit_and, Nat.testBit_shiftLeft, Nat.testBit_shiftLeft, Nat.testBit_shiftRight, Nat.testBit_two_pow_sub_one]
  by_cases h6 : 6 ≤ i
  · rw [show 6 + (i - 6) = i by omega]
    by_cases h64 : i < 64
    · simp [h6, show i - 6 < 58 by omega]
    · rw [Nat.testBit_lt_two_pow (Nat.lt_of_lt_of_le h (Nat.pow_le_pow_right (by omega) (by omega)))]
      simp
  · simp [h6]
theorem i64_andNot63 (k : Nat) (h : k ≤ 9223372036854775807) : bits .andNot .i64 (k : Int) 63 = ((k / 64 * 64 : Nat) : Int) := by
  show IntKind.i64.wrap ((BitVec.ofInt 64 (k : Int) &&& ~~~BitVec.ofInt 64 ((63 : Nat) : Int)).toNat : Int) = _
  rw [BitVec.toNat_and, BitVec.toNat_not, ofInt_u64 k (by omega), ofInt_u64 63 (by omega)]
  have e : 2 ^ 64 - 1 - 63 = 18446744073709551552 := by decide
  rw [e, nat_hi6 k (by omega)]
  exact wrap_i64_in _ (by omega) (by omega)

set_option maxRecDepth 100000 in
set_option maxHeartbeats 4000000 in
theorem wr_b {g n ln : Nat} {pv : Value} {m bs : List UInt8} {s : Md.St} {xs : List UInt8} {nx : Nat} {w0 w : World} {a : Act} (hF : Fr37 a g pv n)
    (hD : Dig w g s xs nx ln) (hP : Md.Rp s xs nx m) (hR : Reads w pv bs) (hg : w0.grownBy w (some g)) (hx : bs = [] ∨ nx = 0) (hne : pv.ownBlock ≠ some g) :
    codeB37.wp Try.prog (bodyPost Try.prog Try.f37 (Post37 g (m ++ bs) n ln w0)) a w := by
  obtain ⟨hs, hd, e0, e1, e4, e5⟩ := hF
  revert e0 e1 e4 e5
  refine open106 (fun a => a.eval (.tmp 0) = .pointer (some ⟨g, 0, none⟩) → a.eval (.tmp 1) = pv → a.eval (.tmp 4) = .int .i64 (n : Int) → a.eval (.tmp 5) = .nilIface → codeB37.wp Try.prog (bodyPost Try.prog Try.f37 (Post37 g (m ++ bs) n ln w0)) a w) ?_ a hs hd
  intro u0 u1 u2 u3 u4 u5
  intros
  rename_i e0 e1 e4 e5
  have f0 : u0 = _ := e0
  clear e0
  have f1 : u1 = _ := e1
  clear e1
  have f4 : u4 = _ := e4
  clear e4
  have f5 : u5 = _ := e5
  clear e5
  subst f0 f1 f4 f5
  obtain ⟨ad, c, rfl, hc, hm, _⟩ := id hR
  have HD := Lib.hid hD
  have HP := Lib.hid hP
  have HR := Lib.hid hR
  have HG := Lib.hid hg
  have HN := Lib.hid hne
  clear hD hP hR hg hne
  have hcode : codeB37 = .seq (seqL codeB37) codeC37 := by kernel_rfl
  rw [hcode]
  refine wp_seq ?_
  conv => arg 2; whnf
  unfold maxLen at hm
  obtain ⟨k, hk⟩ : ∃ k, k = bs.length := ⟨_, rfl⟩
  rw [← hk] at hc ⊢
  by_cases h0 : k < 64
  · have q2 : ¬ (64 : Int) ≤ (k : Int) := by omega
    have HX := Lib.hid hx
    have q : (k : Int) ≤ 9223372036854775807 := by omega
    have HK := Lib.hid hk
    have HL := Lib.hid h0
    clear hx h0 hk
    go_wp2_with fail
    refine (show Code.wp Try.prog _ _ _ _ from ?_)
    refine wr_c ⟨rfl, rfl, rfl, rfl, rfl, rfl⟩ HD.out HP.out (by have h := HR.out; rw [← HK.out] at h; exact h) HG.out HX.out (by rw [← HK.out]; exact HL.out)
  · have q2 : (64 : Int) ≤ (k : Int) := by omega
    obtain rfl : nx = 0 := by
      rcases hx with rfl | hx
      · exact absurd (show k < 64 by rw [hk]; decide) h0
      · exact hx
    have q : k ≤ 9223372036854775807 := by omega
    have qb := i64_andNot63 k q
    obtain ⟨l, hl⟩ : ∃ l, l = k / 64 * 64 := ⟨_, rfl⟩
    rw [← hl] at qb
    have HL := Lib.hid hl
    have q4 : l ≤ k := by omega
    have q5 : (l : Int) ≤ (c : Int) := by omega
    have HK := Lib.hid hk
    clear hk hx h0 hl
    go_wp2_with (refine stand_slice ?_)
    refine go_on (s_upto (bs := bs) l rfl rfl HK.out (by have h := HR.out; rw [← HK.out] at h; exact h) q4 (fun r1 => ?_))
    have hl2 : (bs.take l).length = l := by rw [List.length_take, ← HK.out]; omega
    have R1 := Lib.hid r1
    have HL2 := Lib.hid hl2
    clear r1 hl2
    go_wp2_with fail
    refine (block_any g s xs 0 ln _ (bs.take l) w HD.out R1.out).mono ?_
    rintro e w1 ⟨rfl, d1, g1⟩
    have r2 : Reads w1 (.slice ad k c) bs := by
      have h := HR.out
      rw [← HK.out] at h
      refine h.grown g1 ?_
      have h2 := HN.out
      rw [← HK.out] at h2
      exact h2
    have D1 := Lib.hid d1
    have R2 := Lib.hid r2
    have G1 := Lib.hid (grown_trans HG.out g1)
    have P1 := Lib.hid (Md.rp_whole HP.out (bs.take l) (by rw [HL2.out, HL.out]; omega))
    clear d1 g1 r2 HD HR HG R1
    go_wp2_with (refine stand_slice ?_)
    refine go_on (s_from (bs := bs) l rfl rfl HK.out R2.out q4 (fun ad' c' r3 own3 => ?_))
    have R3 := Lib.hid r3
    have q6 : k - l < 64 := by rw [HL.out]; omega
    have q7 : (bs.drop l).length = k - l := by rw [List.length_drop, HK.out]
    have Q6 := Lib.hid q6
    have Q7 := Lib.hid q7
    clear r3 own3 q6 q7
    go_wp2_with fail
    refine (show Code.wp Try.prog _ _ _ _ from ?_)
    rw [← List.take_append_drop l bs, ← List.append_assoc]
    exact wr_c ⟨rfl, rfl, rfl, rfl, rfl, rfl⟩ D1.out P1.out R3.out G1.out (.inr rfl) (by rw [Q7.out]; exact Q6.out)

theorem dig_reads {w : World} {g : Nat} {s : Md.St} {xs : List UInt8} {nx ln : Nat} (h : Dig w g s xs nx ln) : Reads w (.slice (some ⟨g, 4, none⟩) 64 64) xs :=
  ⟨some ⟨g, 4, none⟩, 64, by rw [h.len], by rw [h.len]; exact Nat.le_refl _, by unfold maxLen; omega, fun _ => ⟨g, 4, rfl, fun j hj => h.x j (by rw [← h.len]; exact hj)⟩⟩
theorem own_slice {ad : Option Addr} {n c n' c' : Nat} {g : Nat} (h : (Value.slice ad n c).ownBlock ≠ some g) : (Value.slice ad n' c').ownBlock ≠ some g := by
  cases ad with
  | none => exact h
  | some b => exact h

def thenOf : Code → Code
  | .cond _ a _ => a
  | c => c
noncomputable def codeA37 : Code := seqL (seqR (seqR (seqR code37)))
noncomputable def codeA237 : Code := seqR (thenOf (seqR codeA37))

set_option maxRecDepth 100000 in
set_option maxHeartbeats 4000000 in
theorem wr_a2 {g n ln : Nat} {pv : Value} {m bs : List UInt8} {s : Md.St} {xs : List UInt8} {nx : Nat} {w0 w : World} {a : Act} {Q : Exit → Act → World → Prop} (hF : Fr37 a g pv n) (n1 : Nat) (hn1 : n1 = min (64 - nx) bs.length) (h6 : a.eval (.tmp 6) = .int .i64 (n1 : Int))
    (hD : Dig w g s (xs.take nx ++ bs.take (64 - nx) ++ xs.drop (nx + n1)) nx ln) (hP : Md.Rp s xs nx m) (hR : Reads w pv bs) (hg : w0.grownBy w (some g)) (hne : pv.ownBlock ≠ some g)
    (H : ∀ a' w' pv' s' xs' nx' m' bs', Fr37 a' g pv' n → Dig w' g s' xs' nx' ln → Md.Rp s' xs' nx' m' → Reads w' pv' bs' → w0.grownBy w' (some g) → (bs' = [] ∨ nx' = 0) → pv'.ownBlock ≠ some g → m' ++ bs' = m ++ bs → Q .normal a' w') :
    codeA237.wp Try.prog Q a w := by
  obtain ⟨hs, hd, e0, e1, e4, e5⟩ := hF
  revert e0 e1 e4 e5 h6
  refine open106 (fun a => a.eval (.tmp 6) = .int .i64 (n1 : Int) → a.eval (.tmp 0) = .pointer (some ⟨g, 0, none⟩) → a.eval (.tmp 1) = pv → a.eval (.tmp 4) = .int .i64 (n : Int) → a.eval (.tmp 5) = .nilIface → codeA237.wp Try.prog Q a w) ?_ a hs hd
  intro u0 u1 u2 u3 u4 u5 u6
  intros
  rename_i e6 e0 e1 e4 e5
  have f0 : u0 = _ := e0
  clear e0
  have f1 : u1 = _ := e1
  clear e1
  have f4 : u4 = _ := e4
  clear e4
  have f5 : u5 = _ := e5
  clear e5
  have f6 : u6 = _ := e6
  clear e6
  subst f0 f1 f4 f5 f6
  obtain ⟨ad, c, rfl, hc, hm, _⟩ := id hR
  obtain ⟨ys, hys⟩ : ∃ ys, ys = xs.take nx ++ bs.take (64 - nx) ++ xs.drop (nx + n1) := ⟨_, rfl⟩
  rw [← hys] at hD
  have hyl := hD.len
  have hnx : nx < 64 := by rw [hP.ix]; omega
  have HD := Lib.hid hD
  have HP := Lib.hid hP
  have HR := Lib.hid hR
  have HG := Lib.hid hg
  have HN := Lib.hid hne
  have HH := Lib.hid H
  have HY := Lib.hid hys
  have L := hD.nx
  have F := hD.free 68
  obtain ⟨k, hk⟩ : ∃ k, k = bs.length := ⟨_, rfl⟩
  rw [← hk] at hc hn1 ⊢
  have q4 : n1 ≤ k := by omega
  have q5 : (nx : Int) + (n1 : Int) ≤ 9223372036854775807 := by omega
  have HK := Lib.hid hk
  have HN1 := Lib.hid hn1
  by_cases hfull : nx + n1 = 64
  · have q : ((nx : Int) + (n1 : Int)) = 64 := by omega
    clear hD hP hR hg hne H hys hk hn1 hfull
    conv => arg 2; whnf
    go_wp2_with fail
    have d0 : Dig (w.setCell ⟨g, 68, none⟩ (.int .i64 64)) g s ys 64 ln := dig_nx HD.out 64
    refine (block_any g s ys 64 ln _ ys _ d0 (dig_reads d0)).mono ?_
    rintro e w1 ⟨rfl, d1, g1⟩
    have r1 : Reads w1 (.slice ad k c) bs := by
      have h := HR.out
      rw [← HK.out] at h
      exact h.grown (grown_trans (grown_setCell _ _ _ _) g1) (own_slice HN.out)
    have L1 := d1.nx
    have F1 := d1.free 68
    have G1 := Lib.hid (grown_trans HG.out (grown_trans (grown_setCell w g 68 (.int .i64 64)) g1))
    have D1 := Lib.hid d1
    have R1 := Lib.hid r1
    clear d0 d1 g1 r1
    go_wp2_with (refine stand_slice ?_)
    have d2 : Dig (w1.setCell ⟨g, 68, none⟩ (.int .i64 0)) g (Md.blks s ys) ys 0 ln := dig_nx D1.out 0
    have r2 : Reads (w1.setCell ⟨g, 68, none⟩ (.int .i64 0)) (.slice ad k c) bs := R1.out.grown (grown_setCell _ _ _ _) (own_slice HN.out)
    have g2 := grown_trans G1.out (grown_setCell w1 g 68 (.int .i64 0))
    refine go_on (s_from (bs := bs) n1 rfl rfl HK.out r2 q4 (fun ad' c' r3 own3 => ?_))
    have D2 := Lib.hid d2
    have G2 := Lib.hid g2
    have R3 := Lib.hid r3
    have O3 := Lib.hid own3
    clear d2 r2 g2 r3 own3
    go_wp2_with fail
    have hys := HY.out
    have hn := HN1.out
    have hk := HK.out
    have hyl := HP.out.len
    have e1 : n1 = 64 - nx := by omega
    have e2 : ys = xs.take nx ++ bs.take n1 := by
      rw [hys, List.drop_of_length_le (by omega), List.append_nil, e1]
    refine HH.out _ _ _ _ _ _ (m ++ bs.take n1) (bs.drop n1) ⟨rfl, rfl, rfl, rfl, rfl, rfl⟩ D2.out ?_ R3.out G2.out (.inr rfl) (fun h => own_slice (n' := k) (c' := c) HN.out (O3.out _ h)) ?_
    · have h := Md.rp_full HP.out (bs.take n1) ys (by rw [List.length_take]; omega) D1.out.len
      rw [← e2] at h
      exact h
    · rw [List.append_assoc, List.take_append_drop]
  · have q : (((nx : Int) + (n1 : Int)) == 64) = false := by simp; omega
    clear hD hP hR hg hne H hys hk hn1
    conv => arg 2; whnf
    go_wp2_with (refine stand_slice ?_)
    have d2 : Dig (w.setCell ⟨g, 68, none⟩ (.int .i64 ((nx : Int) + (n1 : Int)))) g s ys (nx + n1) ln := dig_nx HD.out (nx + n1)
    have r2 : Reads (w.setCell ⟨g, 68, none⟩ (.int .i64 ((nx : Int) + (n1 : Int)))) (.slice ad k c) bs := by
      have h := HR.out
      rw [← HK.out] at h
      exact h.grown (grown_setCell _ _ _ _) (own_slice HN.out)
    have g2 := grown_trans HG.out (grown_setCell w g 68 (.int .i64 ((nx : Int) + (n1 : Int))))
    refine go_on (s_from (bs := bs) n1 rfl rfl HK.out r2 q4 (fun ad' c' r3 own3 => ?_))
    have D2 := Lib.hid d2
    have G2 := Lib.hid g2
    have R3 := Lib.hid r3
    have O3 := Lib.hid own3
    clear d2 r2 g2 r3 own3
    go_wp2_with fail
    have hys := HY.out
    have hn := HN1.out
    have hk := HK.out
    have e1 : n1 = bs.length := by omega
    have e2 : ys = xs.take nx ++ bs ++ xs.drop (nx + bs.length) := by
      rw [hys, List.take_of_length_le (l := bs) (by omega), e1]
    refine HH.out _ _ _ _ _ _ (m ++ bs) (bs.drop n1) ⟨rfl, rfl, rfl, rfl, rfl, rfl⟩ D2.out ?_ R3.out G2.out (.inl (List.drop_of_length_le (by omega))) (fun h => own_slice (n' := k) (c' := c) HN.out (O3.out _ h)) ?_
    · have h := Md.rp_fill HP.out bs (by omega)
      rw [← e2, ← e1] at h
      exact h
    · rw [List.drop_of_length_le (by omega), List.append_nil]

theorem run_ld3 (x : Addr) (v : Value) (w : World) (h : w.cell? x = some v) : (Instr.loadAt 3 (.pointer (some x))).run Try.prog w = .ok v w := by
  simp [go_sem, h]
theorem run_sl76 (g l : Nat) (hl : l < 64) (w : World) : (Instr.sliceAt 76 (.pointer (some ⟨g, 4, none⟩)) (some (.int .i64 (l : Int))) none none).run Try.prog w = .ok (.slice (some ⟨g, 4 + l, none⟩) (64 - l) (64 - l)) w := by
  have q : (l : Int) ≤ 64 := by omega
  have h : ¬ 64 = l := by omega
  simp [go_sem, q, h]
section
variable {a : Act} {d : Option Tmp} {x y : Operand} {ty : TypeId} {pos : String} {af : Array Edge} {v : Value} {g : Nat}
theorem e_fa1 (hx : a.eval x = .pointer (some ⟨g, 0, none⟩)) (w : World) : (execOp a.eval { dst := d, op := .fieldAddr 78 x 1, type := ty, pos := pos, after := af, guard := none }).run Try.prog w = .ok (.value (.pointer (some ⟨g, 4, none⟩))) w := by
  simp only [execOp, hx, Sem.run_bind, run_fa1, Result.andThen_ok, Sem.run_pure]
theorem e_fa2 (hx : a.eval x = .pointer (some ⟨g, 0, none⟩)) (w : World) : (execOp a.eval { dst := d, op := .fieldAddr 78 x 2, type := ty, pos := pos, after := af, guard := none }).run Try.prog w = .ok (.value (.pointer (some ⟨g, 68, none⟩))) w := by
  simp only [execOp, hx, Sem.run_bind, run_fa2, Result.andThen_ok, Sem.run_pure]
theorem e_ld3 {p : Addr} (hx : a.eval x = .pointer (some p)) (w : World) (h : w.cell? p = some v) : (execOp a.eval { dst := d, op := .load 3 x, type := ty, pos := pos, after := af, guard := none }).run Try.prog w = .ok (.value v) w := by
  simp only [execOp, hx, Sem.run_bind, run_ld3 p v w h, Result.andThen_ok, Sem.run_pure]
theorem e_sl76 {l : Nat} (hl : l < 64) (hx : a.eval x = .pointer (some ⟨g, 4, none⟩)) (hy : a.eval y = .int .i64 (l : Int)) (w : World) :
    (execOp a.eval { dst := d, op := .slice 76 x (some y) none none, type := ty, pos := pos, after := af, guard := none }).run Try.prog w = .ok (.value (.slice (some ⟨g, 4 + l, none⟩) (64 - l) (64 - l))) w := by
  simp only [execOp, hx, hy, Option.map_some, Option.map_none, Sem.run_bind, run_sl76 g l hl, Result.andThen_ok, Sem.run_pure]
end

/-- The values of Write's region 4. -/
def V37 (g : Nat) (pv : Value) (nx : Nat) (j : Nat) (v : Value) (_ : World) : Prop :=
  match j with
  | 0 | 1 | 3 | 4 => v = .pointer (some ⟨g, 0, none⟩)
  | 2 => v = .pointer (some ⟨g, 4, none⟩)
  | 5 => v = .pointer (some ⟨g, 68, none⟩)
  | 6 => v = .int .i64 (nx : Int)
  | 7 => v = .slice (some ⟨g, 4 + nx, none⟩) (64 - nx) (64 - nx)
  | _ => v = pv

set_option maxRecDepth 100000 in
set_option maxHeartbeats 4000000 in
theorem wr_a {g n ln : Nat} {pv : Value} {m bs : List UInt8} {s : Md.St} {xs : List UInt8} {nx : Nat} {w0 w : World} {a : Act} {Q : Exit → Act → World → Prop} (hF : Fr37 a g pv n)
    (hD : Dig w g s xs nx ln) (hP : Md.Rp s xs nx m) (hR : Reads w pv bs) (hg : w0.grownBy w (some g)) (hne : pv.ownBlock ≠ some g)
    (H : ∀ a' w' pv' s' xs' nx' m' bs', Fr37 a' g pv' n → Dig w' g s' xs' nx' ln → Md.Rp s' xs' nx' m' → Reads w' pv' bs' → w0.grownBy w' (some g) → (bs' = [] ∨ nx' = 0) → pv'.ownBlock ≠ some g → m' ++ bs' = m ++ bs → Q .normal a' w') :
    codeA37.wp Try.prog Q a w := by
  obtain ⟨hs, hd, e0, e1, e4, e5⟩ := hF
  revert e0 e1 e4 e5
  refine open106 (fun a => a.eval (.tmp 0) = .pointer (some ⟨g, 0, none⟩) → a.eval (.tmp 1) = pv → a.eval (.tmp 4) = .int .i64 (n : Int) → a.eval (.tmp 5) = .nilIface → codeA37.wp Try.prog Q a w) ?_ a hs hd
  intro u0 u1 u2 u3 u4 u5 u6
  intros
  rename_i e0 e1 e4 e5
  have f0 : u0 = _ := e0
  clear e0
  have f1 : u1 = _ := e1
  clear e1
  have f4 : u4 = _ := e4
  clear e4
  have f5 : u5 = _ := e5
  clear e5
  subst f0 f1 f4 f5
  have hnx : nx < 64 := by rw [hP.ix]; omega
  have HD := Lib.hid hD
  have HP := Lib.hid hP
  have HR := Lib.hid hR
  have HG := Lib.hid hg
  have HN := Lib.hid hne
  have HH := Lib.hid H
  have L := hD.nx
  clear hD hP hR hg hne H
  have hcode : codeA37 = .seq (seqL codeA37) (.cond (.tmp 23) (.seq (seqL (thenOf (seqR codeA37))) codeA237) .skip) := by kernel_rfl
  rw [hcode]
  clear hcode
  by_cases h0 : nx = 0
  · subst h0
    refine wp_seq ?_
    conv => arg 2; whnf
    go_wp2_with fail
    refine HH.out _ _ u1 s xs 0 m bs ?_ HD.out HP.out HR.out HG.out (.inr rfl) HN.out rfl
    exact ⟨rfl, rfl, rfl, rfl, rfl, rfl⟩
  · have q : (0 : Int) < (nx : Int) := by omega
    clear h0
    refine wp_seq ?_
    conv => arg 2; whnf
    go_wp2_with fail
    conv => arg 2; whnf
    refine wp_region_mono 9 Dr (V37 g u1 nx) hm (by kernel_rfl) 106 (by rfl) (by kernel_rfl) Dr.refl (fun _ _ _ => Dr.trans) (fun _ _ _ _ h _ => h) ?_ ?_
    · refine ⟨?_, ?_, ?_, ?_, ?_, ?_, ?_, ?_, ?_, trivial⟩
      · intro a w1 hs hd hr h1 h2
        exact m_val rfl rfl (e_move (h1 0 (by kernel_rfl)) w1) rfl (Dr.refl _) rfl
      · intro a w1 hs hd hr h1 h2
        exact m_val rfl rfl (e_nil (h2 0 24 (by kernel_rfl)) w1) rfl (Dr.refl _) rfl
      · intro a w1 hs hd hr h1 h2
        exact m_val rfl rfl (e_fa1 (h2 1 25 (by kernel_rfl)) w1) rfl (Dr.refl _) rfl
      · intro a w1 hs hd hr h1 h2
        exact m_val rfl rfl (e_move (h1 0 (by kernel_rfl)) w1) rfl (Dr.refl _) rfl
      · intro a w1 hs hd hr h1 h2
        exact m_val rfl rfl (e_nil (h2 3 27 (by kernel_rfl)) w1) rfl (Dr.refl _) rfl
      · intro a w1 hs hd hr h1 h2
        exact m_val rfl rfl (e_fa2 (h2 4 28 (by kernel_rfl)) w1) rfl (Dr.refl _) rfl
      · intro a w1 hs hd hr h1 h2
        exact m_val rfl rfl (e_ld3 (h2 5 29 (by kernel_rfl)) w1 ((hr.cell _).trans L)) rfl (Dr.refl _) rfl
      · intro a w1 hs hd hr h1 h2
        exact m_val rfl rfl (e_sl76 hnx (h2 2 26 (by kernel_rfl)) (h2 6 30 (by kernel_rfl)) w1) rfl (Dr.refl _) rfl
      · intro a w1 hs hd hr h1 h2
        exact m_val rfl rfl (e_move (h1 1 (by kernel_rfl)) w1) rfl (Dr.refl _) rfl
    · intro a w1 hs hd hr h1 h2
      have hdr : Dr w w1 := Dr.trans ⟨1, rfl⟩ hr
      refine s_copyx nx (64 - nx) (h2 7 31 (by kernel_rfl)) (h2 8 32 (by kernel_rfl)) (HD.out.dr hdr) (by omega) (HR.out.dr hdr) (fun w2 d2 g2 => ?_)
      refine s_as (eval_put_same _ _ _ (by rw [show a.tmps.size = 106 from hs]; omega)) ?_
      refine wpList_nil ?_
      go_step
      go_step
      have hs' : a.tmps.size = 106 := hs
      have hev : ∀ t : Nat, t ≠ 33 → t ≠ 6 → idleSlot _ t = true → Act.eval (Act.put (Act.put a (some 33) (Value.int .i64 ((min (64 - nx) bs.length : Nat) : Int))) (some 6) (Value.int .i64 ((min (64 - nx) bs.length : Nat) : Int))) (.tmp t) = _ := fun t e1 e2 e3 =>
        (eval_put_other _ _ _ _ (fun h => e2 h.symm)).trans ((eval_put_other _ _ _ _ (fun h => e1 h.symm)).trans (h1 t e3))
      refine wr_a2 (s := s) (xs := xs) (m := m) (bs := bs) ⟨?_, ?_, hev 0 (by omega) (by omega) (by kernel_rfl), hev 1 (by omega) (by omega) (by kernel_rfl), hev 4 (by omega) (by omega) (by kernel_rfl), hev 5 (by omega) (by omega) (by kernel_rfl)⟩ _ rfl ?_ d2 HP.out ?_ (grown_trans HG.out (grown_trans (grown_dr hdr) g2)) HN.out HH.out
      · simp only [size_put]; exact hs'
      · simp only [defers_put]; exact hd
      · exact eval_put_same _ _ _ (by simp only [size_put]; omega)
      · exact (HR.out.dr hdr).grown g2 HN.out

/-- Block g is a digest behind the text m. -/
def Rep (w : World) (g : Nat) (m : List UInt8) : Prop := ∃ s xs nx, Dig w g s xs nx m.length ∧ Md.Rp s xs nx m
theorem Rep.below {w w' : World} {g : Nat} {m : List UInt8} (h : Rep w g m) (hb : Below w.heap.size w w') : Rep w' g m := by
  obtain ⟨s, xs, nx, h1, h2⟩ := h
  exact ⟨s, xs, nx, h1.below hb, h2⟩
theorem Rep.lt {w : World} {g : Nat} {m : List UInt8} (h : Rep w g m) : g < w.heap.size := by
  obtain ⟨s, xs, nx, h1, h2⟩ := h
  exact h1.lt

set_option maxRecDepth 100000 in
set_option maxHeartbeats 4000000 in
theorem write_any (g : Nat) (pv : Value) (m bs : List UInt8) (w : World) (h : Rep w g m) (hR : Reads w pv bs) (hne : pv.ownBlock ≠ some g) (hl : m.length + bs.length ≤ 1152921504606846976) :
    Calls Try.prog 37 #[.pointer (some ⟨g, 0, none⟩), pv] w fun e w' => e = .returned (.tuple #[.int .i64 (bs.length : Int), .nilIface]) ∧ Rep w' g (m ++ bs) ∧ w.grownBy w' (some g) := by
  obtain ⟨s, xs, nx, hD, hP⟩ := h
  obtain ⟨ad, c, rfl, hc, hm, _⟩ := id hR
  suffices hs : Calls Try.prog 37 #[.pointer (some ⟨g, 0, none⟩), .slice ad bs.length c] w (Post37 g (m ++ bs) bs.length (m.length + bs.length) w) by
    refine hs.mono ?_
    rintro e w' ⟨h1, ⟨s', xs', nx', h2, h3⟩, h4⟩
    exact ⟨h1, ⟨s', xs', nx', by rw [List.length_append]; exact h2, h3⟩, h4⟩
  obtain ⟨k, hk⟩ : ∃ k, k = bs.length := ⟨_, rfl⟩
  obtain ⟨j, hj⟩ : ∃ j, j = m.length := ⟨_, rfl⟩
  rw [← hj] at hD
  rw [← hk] at hc
  rw [← hk, ← hj] at hl ⊢
  have HD := Lib.hid hD
  have HP := Lib.hid hP
  have HR := Lib.hid hR
  have HN := Lib.hid hne
  have HK := Lib.hid hk
  have HJ := Lib.hid hj
  have L := hD.ln
  have F := hD.free 69
  have q1 : (j : Int) + (k : Int) ≤ 1152921504606846976 := by omega
  clear hD hP hR hne hk hj
  go_enter Try.func37, Try.ntmps37
  refine (show Code.wp Try.prog (.seq (seqL code37) (.seq (seqL (seqR code37)) (.seq (seqL (seqR (seqR code37))) (.seq codeA37 codeB37)))) _ _ _ from ?_)
  refine wp_seq ?_
  conv => arg 2; whnf
  go_wp2_with fail
  conv => arg 2; whnf
  go_wp2_with fail
  conv => arg 2; whnf
  go_wp2_with fail
  have d1 : Dig (w.setCell ⟨g, 69, none⟩ (.int .u64 ((j : Int) + (k : Int)))) g s xs nx (j + k) := dig_ln HD.out (j + k)
  have r1 : Reads (w.setCell ⟨g, 69, none⟩ (.int .u64 ((j : Int) + (k : Int)))) (.slice ad bs.length c) bs := HR.out.grown (grown_setCell _ _ _ _) HN.out
  refine wr_a (n := k) (s := s) (xs := xs) (nx := nx) (m := m) (bs := bs) (w0 := w) ?_ d1 HP.out r1 (grown_setCell _ _ _ _) HN.out (fun a' w' pv' s' xs' nx' m' bs' h1 h2 h3 h4 h5 h6 h7 h8 => ?_)
  · rw [← HK.out]; exact ⟨rfl, rfl, rfl, rfl, rfl, rfl⟩
  · go_step
    go_step
    have h := wr_b h1 h2 h3 h4 h5 h6 h7
    rw [h8] at h
    exact h
end Go.Proofs.Ytkjapcmnopnblaa
