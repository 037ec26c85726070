/- MarshalBinary; impl's MarshalMd5 and AppendMd5. -/
import Derived.Test.YtkjapcmnopnblaaAb
import Derived.Test.YtkjapcmnopnblaaCw
import Derived.Laws.MakeOwn
namespace Go.Proofs.Ytkjapcmnopnblaa
open Go.RowKit
set_option linter.unusedVariables false

theorem stand_make {P : Program} {ops : Array Oper} {Q : Exit → Act → World → Prop} {a : Act} {w : World} {rest : List Oper} {d : Option Tmp} {t : TypeId} {x y : Operand} {ty : TypeId} {pos : String} {af : Array Edge} {gd : Option (Nat × Bool)}
    (h : Stand (wpList P ops Q ({ dst := d, op := .makeSlice t x y, type := ty, pos := pos, after := af, guard := gd } :: rest) a w)) :
    wpList P ops Q ({ dst := d, op := .makeSlice t x y, type := ty, pos := pos, after := af, guard := gd } :: rest) a w := by
  unfold Stand at h; exact h
theorem e_make92 (a : Act) {d : Option Tmp} {ty : TypeId} {pos : String} {af : Array Edge} (w : World) :
    ∃ w', (execOp a.eval { dst := d, op := .makeSlice 24 (.const (.int .i64 0)) (.const (.int .i64 92)), type := ty, pos := pos, after := af, guard := none }).run Try.prog w = .ok (.value (.slice (some ⟨w.heap.size, 0, none⟩) 0 92)) w' ∧
      Owns w' w.heap.size (.slice (some ⟨w.heap.size, 0, none⟩) 0 92) [] ∧ Below w.heap.size w w' := by
  obtain ⟨i, hi, hz, hs, hb⟩ := info_parts info5
  obtain ⟨w', h1, h2, h3⟩ := run_make_own (P := Try.prog) w w.heap.size 24 5 i _ 1 Try.underlying24 hi hz hs .i64 .i64 92 (by rw [hb]; omega) (by unfold maxLen; omega) (Nat.le_refl _)
  refine ⟨w', ?_, h2, (Below.refl _ _).grown h3 (Nat.le_refl _) (fun k hk => by cases hk)⟩
  simp only [execOp, eval_const, Sem.run_bind]
  exact congrArg (fun r => Result.andThen r (fun a w' => Result.ok (Next.value a) w')) h1

set_option maxHeartbeats 2000000 in
theorem marshalBinary_any (g : Nat) (m : List UInt8) (w : World) (h : Rep w g m) (hlm : m.length < 18446744073709551616) :
    Calls Try.prog 33 #[.pointer (some ⟨g, 0, none⟩)] w fun e w' => ∃ v', e = .returned (.tuple #[v', .nilIface]) ∧ Owns w' w.heap.size v' (Md.kept m) ∧ Below w.heap.size w w' := by
  have H := Lib.hid h
  have HL := Lib.hid hlm
  have hg : g < w.heap.size := h.lt
  clear h hlm
  go_enter Try.func33, Try.ntmps33
  go_wp2_with (refine stand_make ?_)
  obtain ⟨w2, h2, ho, hb⟩ := e_make92 (d := some 5) (ty := 24) (pos := "md5.go:54") (af := #[]) ⟨#[.pointer (some ⟨g, 0, none⟩), undef, .slice none 0 0, .nilIface, .pointer (some ⟨g, 0, none⟩), undef, undef, undef, undef], []⟩ w
  refine go_on (s_run rfl h2 ?_)
  clear h2
  have HB := Lib.hid hb
  have HO := Lib.hid ho
  clear hb ho
  go_wp2_with fail
  refine (appendBinary_any g w.heap.size _ [] m w2 (H.out.below HB.out) HO.out hg HB.out.size (by simp) HL.out).mono ?_
  rintro e w3 ⟨v3, rfl, o3, b3⟩
  have O3 := Lib.hid o3
  have B3 := Lib.hid (Below.trans HB.out b3)
  clear o3 b3
  go_wp2_with fail
  go_ret2
  exact ⟨_, rfl, O3.out, B3.out⟩

section
variable {a : Act} {d : Option Tmp} {x y z : Operand} {ty : TypeId} {pos : String} {af : Array Edge} {gd : Option (Nat × Bool)} {v : Value}
theorem g_nilerr (hx : a.eval x = .nilIface) (w : World) : (execOp a.eval { dst := d, op := .binOp .eql 51 x (.const .nilIface) 51, type := ty, pos := pos, after := af, guard := gd }).run Try.prog w = .ok (.value (.bool true)) w := by
  simp only [execOp, hx, eval_const]
  simp [go_sem]
end
/-- The values of the last region of impl.MarshalMd5 and impl.AppendMd5. -/
def V17 (v1 : Value) (j : Nat) (v : Value) (_ : World) : Prop :=
  match j with
  | 1 => v = .nilIface
  | 2 | 4 => v = .bool true
  | _ => v = v1

set_option maxHeartbeats 2000000 in
theorem marshalMd5_any (pv : Value) (ps : List (List UInt8)) (w : World) (h : Pieces w pv ps) (hl : ps.flatten.length ≤ 5000) (hl2 : ps.length ≤ 100) :
    Calls Try.prog 17 #[.int .i64 7, pv] w fun e w' => ∃ v', e = .returned (.tuple #[v', .bool true]) ∧ Owns w' w.heap.size v' (Md.kept ps.flatten) ∧ Below w.heap.size w w' := by
  have H := Lib.hid h
  have HL := Lib.hid hl
  have HL2 := Lib.hid hl2
  clear h hl hl2
  go_enter Try.func17, Try.ntmps17
  go_wp2_with fail
  refine (fed_any pv ps w H.out HL.out HL2.out).mono ?_
  rintro e w1 ⟨rfl, r1, b1⟩
  have R1 := Lib.hid r1
  have B1 := Lib.hid b1
  clear r1 b1
  go_wp2_with fail
  refine (marshalBinary_any w.heap.size ps.flatten w1 R1.out (by have := HL.out; omega)).mono ?_
  rintro e w2 ⟨v2, rfl, o2, b2⟩
  have O2 := Lib.hid (o2.mono B1.out.size)
  have B2 := Lib.hid (RB.trans (a := w) B1.out b2)
  clear o2 b2
  go_wp2_with fail
  refine wp_region_mono 5 Dr (V17 v2) hm (by kernel_rfl) 22 (by rfl) (by kernel_rfl) Dr.refl (fun _ _ _ => Dr.trans) (fun _ _ _ _ h _ => h) ?_ ?_
  · refine ⟨?_, ?_, ?_, ?_, ?_, trivial⟩
    · intro a w1 hs hd hr h1 h2
      exact m_val rfl rfl (g_move (h1 7 (by kernel_rfl)) w1) rfl (Dr.refl _) rfl
    · intro a w1 hs hd hr h1 h2
      exact m_val rfl rfl (g_move (h1 8 (by kernel_rfl)) w1) rfl (Dr.refl _) rfl
    · intro a w1 hs hd hr h1 h2
      exact m_val rfl rfl (g_nilerr (h2 1 20 (by kernel_rfl)) w1) rfl (Dr.refl _) rfl
    · intro a w1 hs hd hr h1 h2
      exact m_val rfl rfl (g_assign (h2 0 19 (by kernel_rfl)) w1) rfl (Dr.refl _) rfl
    · intro a w1 hs hd hr h1 h2
      exact m_val rfl rfl (g_assign (h2 2 21 (by kernel_rfl)) w1) rfl (Dr.refl _) rfl
  · intro a w3 hs hd hr h1 h2
    have hdr : Dr w2 w3 := Dr.trans ⟨1, rfl⟩ hr
    refine wpList_nil ?_
    go_step
    go_step
    have e1 : a.tmps.getD 4 undef = v2 := h2 3 4 (by kernel_rfl)
    have e2 : a.tmps.getD 5 undef = .bool true := h2 4 5 (by kernel_rfl)
    refine wp_ret (bodyPost_ret (results_tmp2 (t := 4) (u := 5) rfl _ _ _) hd ⟨v2, ?_, O2.out.dr hdr, Below.trans B2.out (below_dr hdr)⟩)
    rw [e1, e2]

set_option maxHeartbeats 2000000 in
theorem appendMd5_any (pv fv : Value) (ps : List (List UInt8)) (fs : List UInt8) (w : World) (h : Pieces w pv ps) (hf : Reads w fv fs) (hl : ps.flatten.length ≤ 5000) (hl2 : ps.length ≤ 100) (hl3 : fs.length ≤ 1000) :
    Calls Try.prog 26 #[.int .i64 7, pv, fv] w fun e w' => ∃ v', e = .returned (.tuple #[v', .bool true]) ∧ Owns w' w.heap.size v' (fs ++ Md.kept ps.flatten) ∧ Below w.heap.size w w' := by
  have H := Lib.hid h
  have HF := Lib.hid hf
  have HL := Lib.hid hl
  have HL2 := Lib.hid hl2
  have HL3 := Lib.hid hl3
  clear h hf hl hl2 hl3
  go_enter Try.func26, Try.ntmps26
  go_wp2_with fail
  refine (fed_any pv ps w H.out HL.out HL2.out).mono ?_
  rintro e w1 ⟨rfl, r1, b1⟩
  have R1 := Lib.hid r1
  have B1 := Lib.hid b1
  have hg1 : w.heap.size < w1.heap.size := r1.lt
  clear r1 b1
  go_wp2_with fail
  refine (copied_any fv fs w1 (HF.out.below B1.out) (by have := HL3.out; omega)).mono ?_
  rintro e w9 ⟨v9, rfl, o9, b9⟩
  have O9 := Lib.hid o9
  have C9 := Lib.hid b9
  have B9 := Lib.hid (RB.trans (a := w) B1.out b9)
  have R9 := Lib.hid (R1.out.below b9)
  clear o9 b9
  go_wp2_with fail
  refine (appendBinary_any w.heap.size w1.heap.size v9 fs ps.flatten w9 R9.out O9.out hg1 C9.out.size (by have := HL3.out; omega) (by have := HL.out; omega)).mono ?_
  rintro e w2 ⟨v2, rfl, o2, b2⟩
  have O2 := Lib.hid (o2.mono B1.out.size)
  have B2 : Hid (Below w.heap.size w w2) := Lib.hid (Below.trans B9.out (Below.mono b2 B1.out.size))
  clear o2 b2
  go_wp2_with fail
  refine wp_region_mono 5 Dr (V17 v2) hm (by kernel_rfl) 26 (by rfl) (by kernel_rfl) Dr.refl (fun _ _ _ => Dr.trans) (fun _ _ _ _ h _ => h) ?_ ?_
  · refine ⟨?_, ?_, ?_, ?_, ?_, trivial⟩
    · intro a w1 hs hd hr h1 h2
      exact m_val rfl rfl (g_move (h1 9 (by kernel_rfl)) w1) rfl (Dr.refl _) rfl
    · intro a w1 hs hd hr h1 h2
      exact m_val rfl rfl (g_move (h1 10 (by kernel_rfl)) w1) rfl (Dr.refl _) rfl
    · intro a w1 hs hd hr h1 h2
      exact m_val rfl rfl (g_nilerr (h2 1 24 (by kernel_rfl)) w1) rfl (Dr.refl _) rfl
    · intro a w1 hs hd hr h1 h2
      exact m_val rfl rfl (g_assign (h2 0 23 (by kernel_rfl)) w1) rfl (Dr.refl _) rfl
    · intro a w1 hs hd hr h1 h2
      exact m_val rfl rfl (g_assign (h2 2 25 (by kernel_rfl)) w1) rfl (Dr.refl _) rfl
  · intro a w3 hs hd hr h1 h2
    have hdr : Dr w2 w3 := Dr.trans ⟨1, rfl⟩ hr
    refine wpList_nil ?_
    go_step
    go_step
    have e1 : a.tmps.getD 6 undef = v2 := h2 3 6 (by kernel_rfl)
    have e2 : a.tmps.getD 7 undef = .bool true := h2 4 7 (by kernel_rfl)
    refine wp_ret (bodyPost_ret (results_tmp2 (t := 6) (u := 7) rfl _ _ _) hd ⟨v2, ?_, O2.out.dr hdr, Below.trans B2.out (below_dr hdr)⟩)
    rw [e1, e2]
end Go.Proofs.Ytkjapcmnopnblaa
