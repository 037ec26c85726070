/- The law FnRoadMd5, walked. -/
import Derived.Test.YtkjapcmnopnblaaL9
namespace Go.Proofs.Ytkjapcmnopnblaa
open Go.RowKit
set_option linter.unusedVariables false

theorem hb21 : Try.f21.body.isNone = false := by kernel_rfl
theorem hn21 : (Try.f21.name == "runtime.NumGoroutine") = false := by kernel_rfl
theorem hb27 : Try.f27.body.isNone = false := by kernel_rfl
theorem hn27 : (Try.f27.name == "runtime.NumGoroutine") = false := by kernel_rfl
theorem hb28 : Try.f28.body.isNone = false := by kernel_rfl
theorem hn28 : (Try.f28.name == "runtime.NumGoroutine") = false := by kernel_rfl
theorem hb29 : Try.f29.body.isNone = false := by kernel_rfl
theorem hn29 : (Try.f29.name == "runtime.NumGoroutine") = false := by kernel_rfl
def V12a (dv : Value) (n : Nat) (ds : List UInt8) (j : Nat) (v : Value) (w : World) : Prop :=
  match j with
  | 0 => Words w v (stL Md.init)
  | 1 => v = dv
  | 2 => v = dv
  | 3 => v = .int .i64 (n : Int)
  | 4 => v = .int .i64 ((min n 5000 : Nat) : Int)
  | 5 => Reads w v (ds.take (min n 5000))
  | 6 => Reads w v (Md.padded (ds.take (min n 5000)))
  | 7 => Words w v (stL (Md.blks Md.init (Md.padded (ds.take (min n 5000)))))
  | _ => Words w v (stL (Md.blks Md.init (Md.padded (ds.take (min n 5000)))))
theorem V12a.keep {dv : Value} {n : Nat} {ds : List UInt8} (j : Nat) (v : Value) (w w' : World) (h : V12a dv n ds j v w) (hr : RB w w') : V12a dv n ds j v w' := by
  match j, h with
  | 0, h => exact Words.below h hr
  | 1, h => exact h
  | 2, h => exact h
  | 3, h => exact h
  | 4, h => exact h
  | 5, h => exact Reads.below h hr
  | 6, h => exact Reads.below h hr
  | 7, h => exact Words.below h hr
  | n + 8, h => exact Words.below h hr
def V12 (sk : Bool) (dv : Value) (n : Nat) (ds : List UInt8) (j : Nat) (v : Value) (w : World) : Prop :=
  match j with
  | 0 => v = dv
  | 1 => v = .int .i64 (n : Int)
  | 2 => v = .bool sk
  | 3 => v = .bool sk
  | 4 => sk = false → Words w v (stL (Md.blks Md.init (Md.padded ds)))
  | 5 => sk = false → v = .int .i64 4
  | 6 => sk = false → v = .bool true
  | 7 => v = cond sk undef (.bool true)
  | 8 => sk = false → v = dv
  | 9 => sk = false → Pieces w v [ds]
  | 10 => sk = false → Reads w v (Md.md5 ds)
  | 11 => sk = false → v = strB (Md.md5 ds)
  | 12 => sk = false → Words w v (stL (Md.blks Md.init (Md.padded ds)))
  | 13 => sk = false → Reads w v (Md.md5 ds)
  | 14 => sk = false → v = strB (Md.md5 ds)
  | 15 => sk = false → v = .bool true
  | 16 => sk = false → v = .bool true
  | 17 => v = .bool true
  | _ => v = .bool true
theorem V12.keep {sk : Bool} {dv : Value} {n : Nat} {ds : List UInt8} (j : Nat) (v : Value) (w w' : World) (h : V12 sk dv n ds j v w) (hr : RB w w') : V12 sk dv n ds j v w' := by
  match j, h with
  | 0, h => exact h
  | 1, h => exact h
  | 2, h => exact h
  | 3, h => exact h
  | 4, h => exact fun hb => Words.below (h hb) hr
  | 5, h => exact h
  | 6, h => exact h
  | 7, h => exact h
  | 8, h => exact h
  | 9, h => exact fun hb => Pieces.below (h hb) hr
  | 10, h => exact fun hb => Reads.below (h hb) hr
  | 11, h => exact h
  | 12, h => exact fun hb => Words.below (h hb) hr
  | 13, h => exact fun hb => Reads.below (h hb) hr
  | 14, h => exact h
  | 15, h => exact h
  | 16, h => exact h
  | 17, h => exact h
  | n + 18, h => exact h

set_option maxRecDepth 100000 in
set_option maxHeartbeats 4000000 in
theorem law12 (dv : Value) (ds : List UInt8) (w : World) (h : Reads w dv ds) :
    Calls Try.prog 12 #[dv] w fun e w' => e = .returned (.bool true) ∧ Below w.heap.size w w' := by
  obtain ⟨a1, c1, rfl, hc1, hm1, _⟩ := id h
  obtain ⟨n, hn⟩ : ∃ n, n = ds.length := ⟨_, rfl⟩
  rw [← hn] at hc1 ⊢
  have H0 : Hid (Reads w (.slice a1 n c1) ds) := Lib.hid (by have h2 := h; rw [← hn] at h2; exact h2)
  have HN := Lib.hid hn
  clear h hn
  by_cases hbig : 2147483647 < n
  · have q1 : (2147483647 : Int) < (n : Int) := by omega
    go_enter Try.func12, Try.ntmps12
    go_wp2
    go_ret
    exact ⟨rfl, Below.refl _ _⟩
  have q1 : ¬ (2147483647 : Int) < (n : Int) := by omega
  go_enter Try.func12, Try.ntmps12
  go_wp2_with fail
  refine wp_region_mono 9 RB (V12a (.slice a1 n c1) n ds) hm (by kernel_rfl) 33 (by rfl) (by kernel_rfl) RB.refl (fun _ _ _ => RB.trans) V12a.keep ?_ ?_
  · refine ⟨?_, ?_, ?_, ?_, ?_, ?_, ?_, ?_, ?_, trivial⟩
    · intro a w1 hs hd hr h1 h2
      refine m_call rfl rfl Try.func27 hb27 hn27 #[.int .i64 4] (by simp only [List.map_toArray, List.map_cons, List.map_nil, eval_const]) ?_
      refine (begin_any w1).mono ?_
      rintro e3 w2 ⟨v, rfl, h3, h4⟩
      exact ⟨v, rfl, h3, h4⟩
    · intro a w1 hs hd hr h1 h2
      exact m_val rfl rfl (g_move (h1 0 (by kernel_rfl)) w1) rfl (RB.refl _) rfl
    · intro a w1 hs hd hr h1 h2
      exact m_val rfl rfl (g_move (h1 0 (by kernel_rfl)) w1) rfl (RB.refl _) rfl
    · intro a w1 hs hd hr h1 h2
      exact m_val rfl rfl (g_len24 (h2 2 9 (by kernel_rfl)) w1) rfl (RB.refl _) rfl
    · intro a w1 hs hd hr h1 h2
      exact m_val rfl rfl (g_min 5000 (h2 3 10 (by kernel_rfl)) w1) rfl (RB.refl _) rfl
    · intro a w1 hs hd hr h1 h2
      have e0 : a.eval (.tmp 8) = .slice a1 n c1 := h2 1 8 (by kernel_rfl)
      obtain ⟨v, e1, e2⟩ := g_upto (a := a) (d := some 12) (x := .tmp 8) (y := .tmp 11) (bs := ds) (min n 5000) (by rw [e0]; exact H0.out.below hr.drew) (h2 4 11 (by kernel_rfl)) (by have := HN.out; omega)
      exact m_val rfl rfl e1 e2 (RB.refl _) rfl
    · intro a w1 hs hd hr h1 h2
      have e1 : Reads w1 (a.eval (.tmp 12)) (ds.take (min n 5000)) := h2 5 12 (by kernel_rfl)
      refine m_call rfl rfl Try.func28 hb28 hn28 #[a.eval (.tmp 12)] (by simp only [List.map_toArray, List.map_cons, List.map_nil]) ?_
      refine (paddedMd5_any _ _ w1 e1 (by rw [List.length_take]; omega)).mono ?_
      rintro e3 w2 ⟨v, rfl, h3, h4⟩
      exact ⟨v, rfl, h3.reads, h4⟩
    · intro a w1 hs hd hr h1 h2
      have e1 : Words w1 (a.eval (.tmp 7)) (stL Md.init) := h2 0 7 (by kernel_rfl)
      have e2 : Reads w1 (a.eval (.tmp 13)) (Md.padded (ds.take (min n 5000))) := h2 6 13 (by kernel_rfl)
      refine m_call rfl rfl Try.func21 hb21 hn21 #[a.eval (.tmp 7), a.eval (.tmp 13)] (by simp only [List.map_toArray, List.map_cons, List.map_nil]) ?_
      refine (implBlock_any _ _ Md.init _ w1 e1 e2 (by
        have h1 : (ds.take (min n 5000)).length ≤ 5000 := by rw [List.length_take]; omega
        have h2 := Md.pad_length (ds.take (min n 5000)).length
        unfold Md.padded
        unfold Md.padz at h2
        rw [List.length_append]
        omega)).mono ?_
      rintro e3 w2 ⟨v, rfl, h3, h4⟩
      exact ⟨v, rfl, h3, h4⟩
    · intro a w1 hs hd hr h1 h2
      exact m_val rfl rfl (g_assign rfl w1) ((h2 7 14 (by kernel_rfl))) (RB.refl _) rfl
  intro a3 w3 hs3 hd3 hr3 h13 h23
  refine wpList_nil ?_
  go_step
  go_step
  have B3 : Hid (RB w w3) := Lib.hid hr3.drew
  have E0 : Hid (a3.eval (.tmp 0) = .slice a1 n c1) := Lib.hid (h13 0 (by kernel_rfl))
  have E3 : Hid (Words w3 (a3.eval (.tmp 3)) (stL (Md.blks Md.init (Md.padded (ds.take (min n 5000)))))) := Lib.hid (h23 8 3 (by kernel_rfl))
  have H3 := Lib.hid (H0.out.below B3.out)
  have hs3' : a3.tmps.size = 33 := hs3
  clear h13 h23
  obtain ⟨sk, hbg⟩ : ∃ b, b = decide ((5000 : Int) < (n : Int)) := ⟨_, rfl⟩
  have small : sk = false → ds.length ≤ 5000 := fun h => by
    rw [h] at hbg
    have h3 := of_decide_eq_false hbg.symm
    have h4 := HN.out
    omega
  have hD : sk = false → ds.take (min n 5000) = ds := fun h => List.take_of_length_le (by have h1 := small h; have h3 := HN.out; omega)
  refine wp_seq ?_
  refine wp_region_mono 19 RB (V12 sk (.slice a1 n c1) n ds) hm (by kernel_rfl) 33 hs3' (by kernel_rfl) RB.refl (fun _ _ _ => RB.trans) V12.keep ?_ ?_
  · refine ⟨?_, ?_, ?_, ?_, ?_, ?_, ?_, ?_, ?_, ?_, ?_, ?_, ?_, ?_, ?_, ?_, ?_, ?_, ?_, trivial⟩
    · intro a w1 hs hd hr h1 h2
      exact m_val rfl rfl (g_move ((h1 0 (by kernel_rfl)).trans E0.out) w1) rfl (RB.refl _) rfl
    · intro a w1 hs hd hr h1 h2
      exact m_val rfl rfl (g_len24 (h2 0 15 (by kernel_rfl)) w1) rfl (RB.refl _) rfl
    · intro a w1 hs hd hr h1 h2
      refine m_val rfl rfl (g_gtr 5000 (h2 1 16 (by kernel_rfl)) w1) ?_ (RB.refl _) rfl
      rw [hbg]; rfl
    · intro a w1 hs hd hr h1 h2
      exact m_val rfl rfl (g_move (h2 2 17 (by kernel_rfl)) w1) rfl (RB.refl _) rfl
    · intro a w1 hs hd hr h1 h2
      have hv := h2 3 18 (by kernel_rfl)
      cases sk
      · exact m_val rfl (want_yes rfl (yielded_of (j := 3) (d := 18) (by kernel_rfl) hv)) (g_move (h1 3 (by kernel_rfl)) w1) (fun _ => by have h := (E3.out).below hr.drew; rw [hD rfl] at h; exact h) (RB.refl _) rfl
      · exact m_pass rfl (want_no rfl (yielded_of (j := 3) (d := 18) (by kernel_rfl) hv)) (fun h => by cases h) (RB.refl _)
    · intro a w1 hs hd hr h1 h2
      have hv := h2 3 18 (by kernel_rfl)
      cases sk
      · exact m_val rfl (want_yes rfl (yielded_of (j := 3) (d := 18) (by kernel_rfl) hv)) (g_lenW (h2 4 19 (by kernel_rfl) rfl)) (fun _ => rfl) (RB.refl _) rfl
      · exact m_pass rfl (want_no rfl (yielded_of (j := 3) (d := 18) (by kernel_rfl) hv)) (fun h => by cases h) (RB.refl _)
    · intro a w1 hs hd hr h1 h2
      have hv := h2 3 18 (by kernel_rfl)
      cases sk
      · exact m_val rfl (want_yes rfl (yielded_of (j := 3) (d := 18) (by kernel_rfl) hv)) (g_eq4 4 (h2 5 20 (by kernel_rfl) rfl) w1) (fun _ => rfl) (RB.refl _) rfl
      · exact m_pass rfl (want_no rfl (yielded_of (j := 3) (d := 18) (by kernel_rfl) hv)) (fun h => by cases h) (RB.refl _)
    · intro a w1 hs hd hr h1 h2
      have hv := h2 3 18 (by kernel_rfl)
      cases sk
      · exact m_val rfl (want_yes rfl (yielded_of (j := 3) (d := 18) (by kernel_rfl) hv)) (g_move (h2 6 21 (by kernel_rfl) rfl) w1) rfl (RB.refl _) rfl
      · exact m_pass rfl (want_no rfl (yielded_of (j := 3) (d := 18) (by kernel_rfl) hv)) rfl (RB.refl _)
    · intro a w1 hs hd hr h1 h2
      have hv := h2 7 22 (by kernel_rfl)
      cases sk
      · exact m_val rfl (want_yes rfl (yielded_of (j := 7) (d := 22) (by kernel_rfl) hv)) (g_move ((h1 0 (by kernel_rfl)).trans E0.out) w1) (fun _ => rfl) (RB.refl _) rfl
      · exact m_pass rfl (want_none rfl (yielded_undef (j := 7) (d := 22) (by kernel_rfl) hv)) (fun h => by cases h) (RB.refl _)
    · intro a w1 hs hd hr h1 h2
      have hv := h2 7 22 (by kernel_rfl)
      cases sk
      · have e0 : a.eval (.tmp 23) = .slice a1 n c1 := h2 8 23 (by kernel_rfl) rfl
        obtain ⟨v, w2, e1, e2, e3⟩ := g_build22 (a := a) (d := some 24) (x := .tmp 23) (bs := ds) (by rw [e0]; exact H3.out.below hr.drew)
        exact m_val (w' := w2) rfl (want_yes rfl (yielded_of (j := 7) (d := 22) (by kernel_rfl) hv)) e1 (fun _ => e2) e3 rfl
      · exact m_pass rfl (want_none rfl (yielded_undef (j := 7) (d := 22) (by kernel_rfl) hv)) (fun h => by cases h) (RB.refl _)
    · intro a w1 hs hd hr h1 h2
      have hv := h2 7 22 (by kernel_rfl)
      cases sk
      · have e2 : Pieces w1 (a.eval (.tmp 24)) [ds] := h2 9 24 (by kernel_rfl) rfl
        refine m_call rfl (want_yes rfl (yielded_of (j := 7) (d := 22) (by kernel_rfl) hv)) Try.func24 hb24 hn24 #[.int .i64 7, a.eval (.tmp 24)] (by simp only [List.map_toArray, List.map_cons, List.map_nil, eval_const]) ?_
        refine (hash_any _ _ w1 e2 (by have := small rfl; simpa using this) (by simp)).mono ?_
        rintro e3 w2 ⟨v, rfl, h3, h4⟩
        rw [show ([ds] : List (List UInt8)).flatten = ds by simp] at h3
        exact ⟨v, rfl, fun _ => h3, h4⟩
      · exact m_pass rfl (want_none rfl (yielded_undef (j := 7) (d := 22) (by kernel_rfl) hv)) (fun h => by cases h) (RB.refl _)
    · intro a w1 hs hd hr h1 h2
      have hv := h2 7 22 (by kernel_rfl)
      cases sk
      · exact m_val rfl (want_yes rfl (yielded_of (j := 7) (d := 22) (by kernel_rfl) hv)) (g_conv (h2 10 25 (by kernel_rfl) rfl)) (fun _ => rfl) (RB.refl _) rfl
      · exact m_pass rfl (want_none rfl (yielded_undef (j := 7) (d := 22) (by kernel_rfl) hv)) (fun h => by cases h) (RB.refl _)
    · intro a w1 hs hd hr h1 h2
      have hv := h2 7 22 (by kernel_rfl)
      cases sk
      · exact m_val rfl (want_yes rfl (yielded_of (j := 7) (d := 22) (by kernel_rfl) hv)) (g_move (h1 3 (by kernel_rfl)) w1) (fun _ => by have h := (E3.out).below hr.drew; rw [hD rfl] at h; exact h) (RB.refl _) rfl
      · exact m_pass rfl (want_none rfl (yielded_undef (j := 7) (d := 22) (by kernel_rfl) hv)) (fun h => by cases h) (RB.refl _)
    · intro a w1 hs hd hr h1 h2
      have hv := h2 7 22 (by kernel_rfl)
      cases sk
      · have e1 : Words w1 (a.eval (.tmp 27)) (stL (Md.blks Md.init (Md.padded ds))) := h2 12 27 (by kernel_rfl) rfl
        refine m_call rfl (want_yes rfl (yielded_of (j := 7) (d := 22) (by kernel_rfl) hv)) Try.func29 hb29 hn29 #[a.eval (.tmp 27)] (by simp only [List.map_toArray, List.map_cons, List.map_nil]) ?_
        refine (low32_any _ _ w1 e1 (by simp [stL])).mono ?_
        rintro e3 w2 ⟨v, rfl, h3, h4⟩
        rw [lows_stL] at h3
        exact ⟨v, rfl, fun _ => h3.reads, h4⟩
      · exact m_pass rfl (want_none rfl (yielded_undef (j := 7) (d := 22) (by kernel_rfl) hv)) (fun h => by cases h) (RB.refl _)
    · intro a w1 hs hd hr h1 h2
      have hv := h2 7 22 (by kernel_rfl)
      cases sk
      · exact m_val rfl (want_yes rfl (yielded_of (j := 7) (d := 22) (by kernel_rfl) hv)) (g_conv (h2 13 28 (by kernel_rfl) rfl)) (fun _ => rfl) (RB.refl _) rfl
      · exact m_pass rfl (want_none rfl (yielded_undef (j := 7) (d := 22) (by kernel_rfl) hv)) (fun h => by cases h) (RB.refl _)
    · intro a w1 hs hd hr h1 h2
      have hv := h2 7 22 (by kernel_rfl)
      cases sk
      · exact m_val rfl (want_yes rfl (yielded_of (j := 7) (d := 22) (by kernel_rfl) hv)) (g_eqs (h2 11 26 (by kernel_rfl) rfl) (h2 14 29 (by kernel_rfl) rfl) w1) (fun _ => congrArg Value.bool (decide_eq_true rfl)) (RB.refl _) rfl
      · exact m_pass rfl (want_none rfl (yielded_undef (j := 7) (d := 22) (by kernel_rfl) hv)) (fun h => by cases h) (RB.refl _)
    · intro a w1 hs hd hr h1 h2
      have hv := h2 3 18 (by kernel_rfl)
      cases sk
      · refine m_val rfl (want_yes rfl (yielded_of (j := 3) (d := 18) (by kernel_rfl) hv)) (g_pick (h2 7 22 (by kernel_rfl)) w1) (fun _ => ?_) (RB.refl _) rfl
        exact h2 15 30 (by kernel_rfl) rfl
      · exact m_pass rfl (want_no rfl (yielded_of (j := 3) (d := 18) (by kernel_rfl) hv)) (fun h => by cases h) (RB.refl _)
    · intro a w1 hs hd hr h1 h2
      refine m_val rfl rfl (g_pick (h2 3 18 (by kernel_rfl)) w1) ?_ (RB.refl _) rfl
      cases sk
      · exact h2 16 31 (by kernel_rfl) rfl
      · rfl
    · intro a w1 hs hd hr h1 h2
      exact m_val rfl rfl (g_assign (h2 17 32 (by kernel_rfl)) w1) rfl (RB.refl _) rfl
  · intro a w2 hs hd hr h1 h2
    refine wpList_nil (show Code.wp Try.prog _ _ _ _ from ?_)
    refine wp_ret (bodyPost_ret (results_tmp (t := 2) rfl _ _ _) (hd.trans hd3) ⟨congrArg Ending.returned (h2 18 2 (by kernel_rfl)), RB.trans (a := w) B3.out hr.drew⟩)
end Go.Proofs.Ytkjapcmnopnblaa
