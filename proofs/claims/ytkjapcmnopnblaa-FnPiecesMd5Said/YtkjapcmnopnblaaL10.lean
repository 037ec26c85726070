/- The law FnPiecesMd5, walked. -/
import Derived.Test.YtkjapcmnopnblaaL9
namespace Go.Proofs.Ytkjapcmnopnblaa
open Go.RowKit
set_option linter.unusedVariables false

def V10 (v4 : Value) (pv : Value) (ps : List (List UInt8)) (j : Nat) (v : Value) (w : World) : Prop :=
  match j with
  | 0 => Reads w v (Md.md5 ps.flatten)
  | 1 => v = .int .i64 16
  | 2 => v = .bool true
  | 3 => v = .bool true
  | 4 => Reads w v (Md.md5 ps.flatten)
  | 5 => v = strB (Md.md5 ps.flatten)
  | 6 => v = .int .i64 7
  | 7 => v = pv
  | 8 => Reads w v ps.flatten
  | 9 => Pieces w v [ps.flatten]
  | 10 => Reads w v (Md.md5 ps.flatten)
  | 11 => v = strB (Md.md5 ps.flatten)
  | 12 => v = .bool true
  | 13 => v = .bool true
  | _ => v = .bool true
theorem V10.keep {v4 : Value} {pv : Value} {ps : List (List UInt8)} (j : Nat) (v : Value) (w w' : World) (h : V10 v4 pv ps j v w) (hr : RB w w') : V10 v4 pv ps j v w' := by
  match j, h with
  | 0, h => exact Reads.below h hr
  | 1, h => exact h
  | 2, h => exact h
  | 3, h => exact h
  | 4, h => exact Reads.below h hr
  | 5, h => exact h
  | 6, h => exact h
  | 7, h => exact h
  | 8, h => exact Reads.below h hr
  | 9, h => exact Pieces.below h hr
  | 10, h => exact Reads.below h hr
  | 11, h => exact h
  | 12, h => exact h
  | 13, h => exact h
  | n + 14, h => exact h

set_option maxRecDepth 100000 in
set_option maxHeartbeats 4000000 in
theorem law10 (pv : Value) (ps : List (List UInt8)) (w : World) (h : Pieces w pv ps) :
    Calls Try.prog 10 #[pv] w fun e w' => e = .returned (.bool true) ∧ Below w.heap.size w w' := by
  have H0 := Lib.hid h
  clear h
  go_enter Try.func10, Try.ntmps10
  go_wp2_with fail
  refine (fits_any pv ps w H0.out).mono ?_
  rintro e w1 ⟨⟨b, rfl⟩, hd⟩
  have B1 : Hid (RB w w1) := Lib.hid (below_dr hd)
  have H1 := Lib.hid (H0.out.below B1.out)
  clear hd
  cases b
  · go_wp2_with fail
    go_ret
    exact ⟨rfl, B1.out⟩
  go_wp2_with fail
  refine (few_any pv ps w1 H1.out).mono ?_
  rintro e w2 ⟨rfl, hd⟩
  have B2 : Hid (RB w w2) := Lib.hid (RB.trans B1.out (below_dr hd))
  have H2 := Lib.hid (H0.out.below B2.out)
  clear hd
  cases hfew : fewB ps
  · clear hfew
    go_wp2_with fail
    go_ret
    exact ⟨rfl, B2.out⟩
  have small := fewB_true hfew
  have SM := Lib.hid small
  clear small hfew
  go_wp2_with fail
  refine (hash_any pv ps w2 H2.out SM.out.2 SM.out.1).mono ?_
  rintro e w3 ⟨v4, rfl, hr4, hb4⟩
  have B3 : Hid (RB w w3) := Lib.hid (RB.trans B2.out hb4)
  have H4 := Lib.hid hr4
  have H1 := Lib.hid (H0.out.below B3.out)
  clear hr4 hb4
  go_wp2_with fail
  have small := SM.out
  refine wp_region_mono 15 RB (V10 v4 pv ps) hm (by kernel_rfl) 28 (by rfl) (by kernel_rfl) RB.refl (fun _ _ _ => RB.trans) V10.keep ?_ ?_
  · refine ⟨?_, ?_, ?_, ?_, ?_, ?_, ?_, ?_, ?_, ?_, ?_, ?_, ?_, ?_, ?_, trivial⟩
    · intro a w1 hs hd hr h1 h2
      exact m_val rfl rfl (g_move (h1 4 (by kernel_rfl)) w1) (H4.out.below hr.drew) (RB.refl _) rfl
    · intro a w1 hs hd hr h1 h2
      refine m_val rfl rfl (g_lenR (h2 0 14 (by kernel_rfl))) ?_ (RB.refl _) rfl
      show Value.int .i64 ((Md.md5 ps.flatten).length : Int) = .int .i64 16
      rw [Md.md5_length]
      rfl
    · intro a w1 hs hd hr h1 h2
      exact m_val rfl rfl (g_gtr 0 (h2 1 15 (by kernel_rfl)) w1) rfl (RB.refl _) rfl
    · intro a w1 hs hd hr h1 h2
      exact m_val rfl rfl (g_move (h2 2 16 (by kernel_rfl)) w1) rfl (RB.refl _) rfl
    · intro a w1 hs hd hr h1 h2
      have hv := h2 3 17 (by kernel_rfl)
      exact m_val rfl (want_yes rfl (yielded_of (j := 3) (d := 17) (by kernel_rfl) hv)) (g_move (h1 4 (by kernel_rfl)) w1) (H4.out.below hr.drew) (RB.refl _) rfl
    · intro a w1 hs hd hr h1 h2
      have hv := h2 3 17 (by kernel_rfl)
      exact m_val rfl (want_yes rfl (yielded_of (j := 3) (d := 17) (by kernel_rfl) hv)) (g_conv (h2 4 18 (by kernel_rfl))) rfl (RB.refl _) rfl
    · intro a w1 hs hd hr h1 h2
      have hv := h2 3 17 (by kernel_rfl)
      exact m_val rfl (want_yes rfl (yielded_of (j := 3) (d := 17) (by kernel_rfl) hv)) (g_move (h1 3 (by kernel_rfl)) w1) rfl (RB.refl _) rfl
    · intro a w1 hs hd hr h1 h2
      have hv := h2 3 17 (by kernel_rfl)
      exact m_val rfl (want_yes rfl (yielded_of (j := 3) (d := 17) (by kernel_rfl) hv)) (g_move (h1 0 (by kernel_rfl)) w1) rfl (RB.refl _) rfl
    · intro a w1 hs hd hr h1 h2
      have hv := h2 3 17 (by kernel_rfl)
      have e1 : a.eval (.tmp 21) = pv := h2 7 21 (by kernel_rfl)
      refine m_call rfl (want_yes rfl (yielded_of (j := 3) (d := 17) (by kernel_rfl) hv)) Try.func20 hb20 hn20 #[pv] (by simp only [List.map_toArray, List.map_cons, List.map_nil, e1]) ?_
      refine (joined_any pv ps w1 (H1.out.below hr.drew) (small).2 (small).1).mono ?_
      rintro e3 w2 ⟨v, rfl, h3, h4⟩
      exact ⟨v, rfl, h3.reads, h4⟩
    · intro a w1 hs hd hr h1 h2
      have hv := h2 3 17 (by kernel_rfl)
      obtain ⟨v, w2, e1, e2, e3⟩ := g_build22 (a := a) (d := some 23) (x := .tmp 22) (h2 8 22 (by kernel_rfl))
      exact m_val (w' := w2) rfl (want_yes rfl (yielded_of (j := 3) (d := 17) (by kernel_rfl) hv)) e1 e2 e3 rfl
    · intro a w1 hs hd hr h1 h2
      have hv := h2 3 17 (by kernel_rfl)
      have e1 : a.eval (.tmp 20) = .int .i64 7 := h2 6 20 (by kernel_rfl)
      have e2 : Pieces w1 (a.eval (.tmp 23)) [ps.flatten] := h2 9 23 (by kernel_rfl)
      refine m_call rfl (want_yes rfl (yielded_of (j := 3) (d := 17) (by kernel_rfl) hv)) Try.func24 hb24 hn24 #[.int .i64 7, a.eval (.tmp 23)] (by simp only [List.map_toArray, List.map_cons, List.map_nil, e1]) ?_
      refine (hash_any _ _ w1 e2 (by have := small.2; simpa using this) (by simp)).mono ?_
      rintro e3 w2 ⟨v, rfl, h3, h4⟩
      rw [show ([ps.flatten] : List (List UInt8)).flatten = ps.flatten by simp] at h3
      exact ⟨v, rfl, h3, h4⟩
    · intro a w1 hs hd hr h1 h2
      have hv := h2 3 17 (by kernel_rfl)
      exact m_val rfl (want_yes rfl (yielded_of (j := 3) (d := 17) (by kernel_rfl) hv)) (g_conv (h2 10 24 (by kernel_rfl))) rfl (RB.refl _) rfl
    · intro a w1 hs hd hr h1 h2
      have hv := h2 3 17 (by kernel_rfl)
      exact m_val rfl (want_yes rfl (yielded_of (j := 3) (d := 17) (by kernel_rfl) hv)) (g_eqs (h2 5 19 (by kernel_rfl)) (h2 11 25 (by kernel_rfl)) w1) (congrArg Value.bool (decide_eq_true rfl)) (RB.refl _) rfl
    · intro a w1 hs hd hr h1 h2
      refine m_val rfl rfl (g_pick (h2 3 17 (by kernel_rfl)) w1) ?_ (RB.refl _) rfl
      exact h2 12 26 (by kernel_rfl)
    · intro a w1 hs hd hr h1 h2
      exact m_val rfl rfl (g_assign (h2 13 27 (by kernel_rfl)) w1) rfl (RB.refl _) rfl
  · intro a w2 hs hd hr h1 h2
    refine wpList_nil ?_
    go_step
    go_step
    refine wp_ret (bodyPost_ret (results_tmp (t := 2) rfl _ _ _) hd ⟨congrArg Ending.returned (h2 14 2 (by kernel_rfl)), RB.trans B3.out hr.drew⟩)
end Go.Proofs.Ytkjapcmnopnblaa
