/- The law FnKeptBehindMd5, walked. -/
import Derived.Test.YtkjapcmnopnblaaMa
import Derived.Test.YtkjapcmnopnblaaL9
namespace Go.Proofs.Ytkjapcmnopnblaa
open Go.RowKit
set_option linter.unusedVariables false

theorem stand_conv {P : Program} {ops : Array Oper} {Q : Exit → Act → World → Prop} {a : Act} {w : World} {rest : List Oper} {d : Option Tmp} {x : Operand} {ty : TypeId} {pos : String} {af : Array Edge} {gd : Option (Nat × Bool)}
    (h : Stand (wpList P ops Q ({ dst := d, op := .convert 24 9 x, type := ty, pos := pos, after := af, guard := gd } :: rest) a w)) :
    wpList P ops Q ({ dst := d, op := .convert 24 9 x, type := ty, pos := pos, after := af, guard := gd } :: rest) a w := by
  unfold Stand at h; exact h
theorem stand_bin9 {P : Program} {ops : Array Oper} {Q : Exit → Act → World → Prop} {a : Act} {w : World} {rest : List Oper} {d : Option Tmp} {o : BinOp} {x y : Operand} {ty : TypeId} {pos : String} {af : Array Edge} {gd : Option (Nat × Bool)} {t : TypeId}
    (h : Stand (wpList P ops Q ({ dst := d, op := .binOp o 9 x y t, type := ty, pos := pos, after := af, guard := gd } :: rest) a w)) :
    wpList P ops Q ({ dst := d, op := .binOp o 9 x y t, type := ty, pos := pos, after := af, guard := gd } :: rest) a w := by
  unfold Stand at h; exact h
theorem s_want {P : Program} {ops : Array Oper} {Q : Exit → Act → World → Prop} {a : Act} {w w' : World} {rest : List Oper} {o : Oper} {v : Value} (hw : Region.wanted o (yielded ops a.tmps) = true) (hr : (execOp a.eval o).run P w = .ok (.value v) w')
    (h : wpList P ops Q rest (a.put o.dst v) w') : wpList P ops Q (o :: rest) a w :=
  Go.BigFrame.wpList_want hw fun _ hK => by unfold Oper.wp; rw [hr]; exact hK _ _ h
theorem g_adds {a : Act} {d : Option Tmp} {x y : Operand} {ty : TypeId} {pos : String} {af : Array Edge} {gd : Option (Nat × Bool)} {b c : List UInt8} (hx : a.eval x = strB b) (hy : a.eval y = strB c) (hl : b.length + c.length ≤ 1000000) (w : World) :
    (execOp a.eval { dst := d, op := .binOp .add 9 x y 9, type := ty, pos := pos, after := af, guard := gd }).run Try.prog w = .ok (.value (strB (b ++ c))) w := by
  simp only [execOp, hx, hy, strB]
  simp [go_sem]
  rw [if_neg (by omega)]
  congr 3

theorem g_same {a : Act} {d : Option Tmp} {x y : Operand} {ty : TypeId} {pos : String} {af : Array Edge} {gd : Option (Nat × Bool)} {b : List UInt8} (hx : a.eval x = strB b) (hy : a.eval y = strB b) (w : World) :
    (execOp a.eval { dst := d, op := .binOp .eql 9 x y 9, type := ty, pos := pos, after := af, guard := gd }).run Try.prog w = .ok (.value (.bool true)) w := by
  rw [g_eqs hx hy w, decide_eq_true rfl]

set_option maxRecDepth 100000 in
set_option maxHeartbeats 4000000 in
theorem law8 (pv fv : Value) (ps : List (List UInt8)) (fs : List UInt8) (w : World) (h : Pieces w pv ps) (hf : Reads w fv fs) :
    Calls Try.prog 8 #[pv, fv] w fun e w' => e = .returned (.bool true) ∧ Below w.heap.size w w' := by
  obtain ⟨a1, c1, rfl, hc1, hm1, _⟩ := id hf
  obtain ⟨n, hn⟩ : ∃ n, n = fs.length := ⟨_, rfl⟩
  rw [← hn] at hc1 ⊢
  have HF : Hid (Reads w (.slice a1 n c1) fs) := Lib.hid (by have h2 := hf; rw [← hn] at h2; exact h2)
  have HN := Lib.hid hn
  have H0 := Lib.hid h
  clear h hf hn
  go_enter Try.func8, Try.ntmps8
  go_wp2_with fail
  refine (fits_any pv ps w H0.out).mono ?_
  rintro e w1 ⟨⟨b, rfl⟩, hd⟩
  have B1 : Hid (RB w w1) := Lib.hid (below_dr hd)
  clear hd
  cases b
  · go_wp2_with fail
    go_ret
    exact ⟨rfl, B1.out⟩
  by_cases hbig : 2147483647 < n
  · have q1 : (2147483647 : Int) < (n : Int) := by omega
    go_wp2_with fail
    go_ret
    exact ⟨rfl, B1.out⟩
  have q1 : ¬ (2147483647 : Int) < (n : Int) := by omega
  go_wp2_with fail
  refine (few_any pv ps w1 (H0.out.below B1.out)).mono ?_
  rintro e w2 ⟨rfl, hd⟩
  have B2 : Hid (RB w w2) := Lib.hid (RB.trans B1.out (below_dr hd))
  clear hd
  cases hfew : fewB ps
  · clear hfew
    go_wp2_with fail
    go_ret
    exact ⟨rfl, B2.out⟩
  have SM := Lib.hid (fewB_true hfew)
  clear hfew
  by_cases hbig2 : 1000 < n
  · have q2 : (1000 : Int) < (n : Int) := by omega
    go_wp2_with fail
    go_ret
    exact ⟨rfl, B2.out⟩
  have q2 : ¬ (1000 : Int) < (n : Int) := by omega
  have hn9 : fs.length ≤ 1000 := by have := HN.out; omega
  have HN9 := Lib.hid hn9
  clear hn9 hbig hbig2
  go_wp2_with fail
  refine (marshalMd5_any pv ps w2 (H0.out.below B2.out) SM.out.2 SM.out.1).mono ?_
  rintro e w3 ⟨v3, rfl, o3, b3⟩
  obtain ⟨a3, c3, rfl, hc3⟩ := o3.slice
  rw [Md.kept_length] at o3 hc3 ⊢
  have O3 := Lib.hid o3
  have B3 := Lib.hid (RB.trans B2.out b3)
  clear o3 b3
  go_wp2_with fail
  refine (appendMd5_any pv _ ps fs w3 (H0.out.below B3.out) (HF.out.below B3.out) SM.out.2 SM.out.1 HN9.out).mono ?_
  rintro e w4 ⟨v4, rfl, o4, b4⟩
  have O4 := Lib.hid o4.reads
  have O3b := Lib.hid (O3.out.below b4).reads
  have B4 := Lib.hid (RB.trans B3.out b4)
  have HF4 := Lib.hid (HF.out.below B4.out)
  clear o4 b4 O3
  go_wp2_with (refine stand_conv ?_)
  refine go_on (s_want rfl (g_conv (bs := fs ++ Md.kept ps.flatten) O4.out) ?_)
  go_wp2_with (refine stand_conv ?_)
  refine go_on (s_want rfl (g_conv (bs := fs) HF4.out) ?_)
  go_wp2_with (refine stand_conv ?_)
  refine go_on (s_want rfl (g_conv (bs := Md.kept ps.flatten) O3b.out) ?_)
  go_wp2_with (refine stand_bin9 ?_)
  refine go_on (s_want rfl (g_adds (b := fs) (c := Md.kept ps.flatten) rfl rfl (by have := HN9.out; rw [Md.kept_length]; omega) w4) ?_)
  go_wp2_with (refine stand_bin9 ?_)
  refine go_on (s_want rfl (g_same (b := fs ++ Md.kept ps.flatten) rfl rfl w4) ?_)
  go_wp2
  go_ret
  exact ⟨rfl, B4.out⟩
end Go.Proofs.Ytkjapcmnopnblaa
