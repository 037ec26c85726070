/- The law FnMd5, walked. -/
import Derived.Test.YtkjapcmnopnblaaCw
import Derived.Test.YtkjapcmnopnblaaL7
namespace Go.Proofs.Ytkjapcmnopnblaa
open Go.RowKit
set_option linter.unusedVariables false

theorem hb16 : Try.f16.body.isNone = false := by kernel_rfl
theorem hn16 : (Try.f16.name == "runtime.NumGoroutine") = false := by kernel_rfl
theorem hb20 : Try.f20.body.isNone = false := by kernel_rfl
theorem hn20 : (Try.f20.name == "runtime.NumGoroutine") = false := by kernel_rfl
theorem hb24 : Try.f24.body.isNone = false := by kernel_rfl
theorem hn24 : (Try.f24.name == "runtime.NumGoroutine") = false := by kernel_rfl
def V9 (sk : Bool) (pv : Value) (ps : List (List UInt8)) (j : Nat) (v : Value) (w : World) : Prop :=
  match j with
  | 0 => v = pv
  | 1 => v = .bool (!sk)
  | 2 => v = .bool sk
  | 3 => v = .bool sk
  | 4 => sk = false → v = .int .i64 7
  | 5 => sk = false → v = pv
  | 6 => sk = false → Reads w v (Md.md5 ps.flatten)
  | 7 => sk = false → v = strB (Md.md5 ps.flatten)
  | 8 => sk = false → v = pv
  | 9 => sk = false → Reads w v ps.flatten
  | 10 => sk = false → Reads w v (Md.md5 ps.flatten)
  | 11 => sk = false → v = strB (Md.md5 ps.flatten)
  | 12 => sk = false → v = .bool true
  | 13 => v = .bool true
  | _ => v = .bool true
theorem V9.keep {sk : Bool} {pv : Value} {ps : List (List UInt8)} (j : Nat) (v : Value) (w w' : World) (h : V9 sk pv ps j v w) (hr : RB w w') : V9 sk pv ps j v w' := by
  match j, h with
  | 0, h => exact h
  | 1, h => exact h
  | 2, h => exact h
  | 3, h => exact h
  | 4, h => exact h
  | 5, h => exact h
  | 6, h => exact fun hb => Reads.below (h hb) hr
  | 7, h => exact h
  | 8, h => exact h
  | 9, h => exact fun hb => Reads.below (h hb) hr
  | 10, h => exact fun hb => Reads.below (h hb) hr
  | 11, h => exact h
  | 12, h => exact h
  | 13, h => exact h
  | n + 14, h => exact h

set_option maxRecDepth 100000 in
set_option maxHeartbeats 4000000 in
theorem law9 (pv : Value) (ps : List (List UInt8)) (w : World) (h : Pieces w pv ps) :
    Calls Try.prog 9 #[pv] w fun e w' => e = .returned (.bool true) ∧ Below w.heap.size w w' := by
  have H0 := Lib.hid h
  clear h
  go_enter Try.func9, Try.ntmps9
  go_wp2_with fail
  refine (fits_any pv ps w H0.out).mono ?_
  rintro e w1 ⟨⟨b, rfl⟩, hd⟩
  have B1 : Hid (RB w w1) := Lib.hid (below_dr hd)
  have H1 := Lib.hid (H0.out.below B1.out)
  clear hd
  cases b
  · go_wp2_with fail
    go_ret
    exact ⟨rfl, B1.out⟩
  go_wp2_with fail
  obtain ⟨sk, hsk⟩ : ∃ b, b = !fewB ps := ⟨_, rfl⟩
  have small : sk = false → ps.length ≤ 100 ∧ ps.flatten.length ≤ 5000 := fun h => fewB_true (by rw [h] at hsk; cases hb : fewB ps with | true => rfl | false => rw [hb] at hsk; cases hsk)
  have hsk : fewB ps = !sk := by rw [hsk, Bool.not_not]
  refine wp_region_mono 15 RB (V9 sk pv ps) hm (by kernel_rfl) 21 (by rfl) (by kernel_rfl) RB.refl (fun _ _ _ => RB.trans) V9.keep ?_ ?_
  · refine ⟨?_, ?_, ?_, ?_, ?_, ?_, ?_, ?_, ?_, ?_, ?_, ?_, ?_, ?_, ?_, trivial⟩
    · intro a w1 hs hd hr h1 h2
      exact m_val rfl rfl (g_move (h1 0 (by kernel_rfl)) w1) rfl (RB.refl _) rfl
    · intro a w1 hs hd hr h1 h2
      have e : a.eval (.tmp 7) = pv := h2 0 7 (by kernel_rfl)
      refine m_call rfl rfl Try.func16 hb16 hn16 #[pv] (by simp only [List.map_toArray, List.map_cons, List.map_nil, e]) ?_
      refine (few_any pv ps w1 (H1.out.below hr.drew)).mono ?_
      rintro e1 w2 ⟨rfl, h4⟩
      exact ⟨_, rfl, congrArg Value.bool hsk, below_dr h4⟩
    · intro a w1 hs hd hr h1 h2
      refine m_val rfl rfl (g_not (h2 1 8 (by kernel_rfl)) w1) ?_ (RB.refl _) rfl
      show Value.bool (!!sk) = Value.bool sk
      rw [Bool.not_not]
    · intro a w1 hs hd hr h1 h2
      exact m_val rfl rfl (g_move (h2 2 9 (by kernel_rfl)) w1) rfl (RB.refl _) rfl
    · intro a w1 hs hd hr h1 h2
      have hv := h2 3 10 (by kernel_rfl)
      cases sk
      · exact m_val rfl (want_yes rfl (yielded_of (j := 3) (d := 10) (by kernel_rfl) hv)) (g_move (h1 3 (by kernel_rfl)) w1) (fun _ => rfl) (RB.refl _) rfl
      · exact m_pass rfl (want_no rfl (yielded_of (j := 3) (d := 10) (by kernel_rfl) hv)) (fun h => by cases h) (RB.refl _)
    · intro a w1 hs hd hr h1 h2
      have hv := h2 3 10 (by kernel_rfl)
      cases sk
      · exact m_val rfl (want_yes rfl (yielded_of (j := 3) (d := 10) (by kernel_rfl) hv)) (g_move (h1 0 (by kernel_rfl)) w1) (fun _ => rfl) (RB.refl _) rfl
      · exact m_pass rfl (want_no rfl (yielded_of (j := 3) (d := 10) (by kernel_rfl) hv)) (fun h => by cases h) (RB.refl _)
    · intro a w1 hs hd hr h1 h2
      have hv := h2 3 10 (by kernel_rfl)
      cases sk
      · have e1 : a.eval (.tmp 11) = .int .i64 7 := h2 4 11 (by kernel_rfl) rfl
        have e2 : a.eval (.tmp 12) = pv := h2 5 12 (by kernel_rfl) rfl
        refine m_call rfl (want_yes rfl (yielded_of (j := 3) (d := 10) (by kernel_rfl) hv)) Try.func24 hb24 hn24 #[.int .i64 7, pv] (by simp only [List.map_toArray, List.map_cons, List.map_nil, e1, e2]) ?_
        refine (hash_any pv ps w1 (H1.out.below hr.drew) (small rfl).2 (small rfl).1).mono ?_
        rintro e3 w2 ⟨v, rfl, h3, h4⟩
        exact ⟨v, rfl, fun _ => h3, h4⟩
      · exact m_pass rfl (want_no rfl (yielded_of (j := 3) (d := 10) (by kernel_rfl) hv)) (fun h => by cases h) (RB.refl _)
    · intro a w1 hs hd hr h1 h2
      have hv := h2 3 10 (by kernel_rfl)
      cases sk
      · exact m_val rfl (want_yes rfl (yielded_of (j := 3) (d := 10) (by kernel_rfl) hv)) (g_conv (h2 6 13 (by kernel_rfl) rfl)) (fun _ => rfl) (RB.refl _) rfl
      · exact m_pass rfl (want_no rfl (yielded_of (j := 3) (d := 10) (by kernel_rfl) hv)) (fun h => by cases h) (RB.refl _)
    · intro a w1 hs hd hr h1 h2
      have hv := h2 3 10 (by kernel_rfl)
      cases sk
      · exact m_val rfl (want_yes rfl (yielded_of (j := 3) (d := 10) (by kernel_rfl) hv)) (g_move (h1 0 (by kernel_rfl)) w1) (fun _ => rfl) (RB.refl _) rfl
      · exact m_pass rfl (want_no rfl (yielded_of (j := 3) (d := 10) (by kernel_rfl) hv)) (fun h => by cases h) (RB.refl _)
    · intro a w1 hs hd hr h1 h2
      have hv := h2 3 10 (by kernel_rfl)
      cases sk
      · have e1 : a.eval (.tmp 15) = pv := h2 8 15 (by kernel_rfl) rfl
        refine m_call rfl (want_yes rfl (yielded_of (j := 3) (d := 10) (by kernel_rfl) hv)) Try.func20 hb20 hn20 #[pv] (by simp only [List.map_toArray, List.map_cons, List.map_nil, e1]) ?_
        refine (joined_any pv ps w1 (H1.out.below hr.drew) (small rfl).2 (small rfl).1).mono ?_
        rintro e3 w2 ⟨v, rfl, h3, h4⟩
        exact ⟨v, rfl, fun _ => h3.reads, h4⟩
      · exact m_pass rfl (want_no rfl (yielded_of (j := 3) (d := 10) (by kernel_rfl) hv)) (fun h => by cases h) (RB.refl _)
    · intro a w1 hs hd hr h1 h2
      have hv := h2 3 10 (by kernel_rfl)
      cases sk
      · have e1 := h2 9 16 (by kernel_rfl) rfl
        refine m_call rfl (want_yes rfl (yielded_of (j := 3) (d := 10) (by kernel_rfl) hv)) Try.func19 hb19 hn19 #[a.eval (.tmp 16)] (by simp only [List.map_toArray, List.map_cons, List.map_nil]) ?_
        refine (specMd5_any _ ps.flatten w1 e1 (by have := (small rfl).2; omega)).mono ?_
        rintro e3 w2 ⟨v, rfl, h3, h4⟩
        exact ⟨v, rfl, fun _ => h3, h4⟩
      · exact m_pass rfl (want_no rfl (yielded_of (j := 3) (d := 10) (by kernel_rfl) hv)) (fun h => by cases h) (RB.refl _)
    · intro a w1 hs hd hr h1 h2
      have hv := h2 3 10 (by kernel_rfl)
      cases sk
      · exact m_val rfl (want_yes rfl (yielded_of (j := 3) (d := 10) (by kernel_rfl) hv)) (g_conv (h2 10 17 (by kernel_rfl) rfl)) (fun _ => rfl) (RB.refl _) rfl
      · exact m_pass rfl (want_no rfl (yielded_of (j := 3) (d := 10) (by kernel_rfl) hv)) (fun h => by cases h) (RB.refl _)
    · intro a w1 hs hd hr h1 h2
      have hv := h2 3 10 (by kernel_rfl)
      cases sk
      · exact m_val rfl (want_yes rfl (yielded_of (j := 3) (d := 10) (by kernel_rfl) hv)) (g_eqs (h2 7 14 (by kernel_rfl) rfl) (h2 11 18 (by kernel_rfl) rfl) w1) (fun _ => congrArg Value.bool (decide_eq_true rfl)) (RB.refl _) rfl
      · exact m_pass rfl (want_no rfl (yielded_of (j := 3) (d := 10) (by kernel_rfl) hv)) (fun h => by cases h) (RB.refl _)
    · intro a w1 hs hd hr h1 h2
      refine m_val rfl rfl (g_pick (h2 3 10 (by kernel_rfl)) w1) ?_ (RB.refl _) rfl
      cases sk
      · exact h2 12 19 (by kernel_rfl) rfl
      · rfl
    · intro a w1 hs hd hr h1 h2
      exact m_val rfl rfl (g_assign (h2 13 20 (by kernel_rfl)) w1) rfl (RB.refl _) rfl
  · intro a w2 hs hd hr h1 h2
    refine wpList_nil ?_
    go_step
    go_step
    refine wp_ret (bodyPost_ret (results_tmp (t := 2) rfl _ _ _) hd ⟨congrArg Ending.returned (h2 14 2 (by kernel_rfl)), RB.trans B1.out hr.drew⟩)
end Go.Proofs.Ytkjapcmnopnblaa
