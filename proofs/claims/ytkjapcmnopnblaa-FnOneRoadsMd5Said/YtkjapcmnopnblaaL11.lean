/- The law FnOneRoadsMd5, walked. -/
import Derived.Test.YtkjapcmnopnblaaL9
namespace Go.Proofs.Ytkjapcmnopnblaa
open Go.RowKit
set_option linter.unusedVariables false

theorem stand_min {P : Program} {ops : Array Oper} {Q : Exit → Act → World → Prop} {a : Act} {w : World} {rest : List Oper} {d : Option Tmp} {xs : Array Operand} {ats : Array TypeId} {ty : TypeId} {pos : String} {af : Array Edge} {gd : Option (Nat × Bool)}
    (h : Stand (wpList P ops Q ({ dst := d, op := .call { callee := .builtin .min, args := xs, argTypes := ats }, type := ty, pos := pos, after := af, guard := gd } :: rest) a w)) :
    wpList P ops Q ({ dst := d, op := .call { callee := .builtin .min, args := xs, argTypes := ats }, type := ty, pos := pos, after := af, guard := gd } :: rest) a w := by
  unfold Stand at h; exact h
def V11 (sk : Bool) (dv : Value) (n : Nat) (ds : List UInt8) (j : Nat) (v : Value) (w : World) : Prop :=
  match j with
  | 0 => v = dv
  | 1 => v = .int .i64 (n : Int)
  | 2 => v = .bool sk
  | 3 => v = .bool sk
  | 4 => sk = false → Reads w v (Md.md5 ds)
  | 5 => sk = false → v = .int .i64 16
  | 6 => sk = false → v = .bool true
  | 7 => v = cond sk undef (.bool true)
  | 8 => sk = false → Reads w v (Md.md5 ds)
  | 9 => sk = false → v = strB (Md.md5 ds)
  | 10 => sk = false → v = dv
  | 11 => sk = false → Pieces w v [ds]
  | 12 => sk = false → Reads w v (Md.md5 ds)
  | 13 => sk = false → v = strB (Md.md5 ds)
  | 14 => sk = false → v = .bool true
  | 15 => sk = false → v = .bool true
  | 16 => v = .bool true
  | _ => v = .bool true
theorem V11.keep {sk : Bool} {dv : Value} {n : Nat} {ds : List UInt8} (j : Nat) (v : Value) (w w' : World) (h : V11 sk dv n ds j v w) (hr : RB w w') : V11 sk dv n ds j v w' := by
  match j, h with
  | 0, h => exact h
  | 1, h => exact h
  | 2, h => exact h
  | 3, h => exact h
  | 4, h => exact fun hb => Reads.below (h hb) hr
  | 5, h => exact h
  | 6, h => exact h
  | 7, h => exact h
  | 8, h => exact fun hb => Reads.below (h hb) hr
  | 9, h => exact h
  | 10, h => exact h
  | 11, h => exact fun hb => Pieces.below (h hb) hr
  | 12, h => exact fun hb => Reads.below (h hb) hr
  | 13, h => exact h
  | 14, h => exact h
  | 15, h => exact h
  | 16, h => exact h
  | n + 17, h => exact h

set_option maxRecDepth 100000 in
set_option maxHeartbeats 4000000 in
theorem law11 (dv : Value) (ds : List UInt8) (w : World) (h : Reads w dv ds) :
    Calls Try.prog 11 #[dv] w fun e w' => e = .returned (.bool true) ∧ Below w.heap.size w w' := by
  obtain ⟨a1, c1, rfl, hc1, hm1, _⟩ := id h
  obtain ⟨n, hn⟩ : ∃ n, n = ds.length := ⟨_, rfl⟩
  rw [← hn] at hc1 ⊢
  have H0 : Hid (Reads w (.slice a1 n c1) ds) := Lib.hid (by have h2 := h; rw [← hn] at h2; exact h2)
  have HN := Lib.hid hn
  clear h hn
  by_cases hbig : 2147483647 < n
  · have q1 : (2147483647 : Int) < (n : Int) := by omega
    go_enter Try.func11, Try.ntmps11
    go_wp2
    go_ret
    exact ⟨rfl, Below.refl _ _⟩
  have q1 : ¬ (2147483647 : Int) < (n : Int) := by omega
  go_enter Try.func11, Try.ntmps11
  go_wp2_with (refine stand_min ?_)
  refine go_on (s_run (w' := w) rfl (g_min (n := n) 5000 rfl w) ?_)
  obtain ⟨l, hl⟩ : ∃ l, l = min n 5000 := ⟨_, rfl⟩
  rw [← hl]
  have HLL := Lib.hid hl
  have hln : l ≤ n := by omega
  clear hl
  refine s_upto (bs := ds) l rfl rfl HN.out H0.out hln (fun r1 => ?_)
  have R1 := Lib.hid r1
  clear r1
  go_wp2_with fail
  refine (one_any _ (ds.take l) w R1.out (by rw [List.length_take]; have := HLL.out; omega)).mono ?_
  rintro e w3 ⟨v4, rfl, hr4, hb4⟩
  have B3 := Lib.hid hb4
  have H4 := Lib.hid hr4
  have H1 := Lib.hid (H0.out.below B3.out)
  clear hr4 hb4
  go_wp2_with fail
  obtain ⟨sk, hbg⟩ : ∃ b, b = decide ((5000 : Int) < (n : Int)) := ⟨_, rfl⟩
  have small : sk = false → ds.length ≤ 5000 := fun h => by
    rw [h] at hbg
    have h3 := of_decide_eq_false hbg.symm
    have h4 := HN.out
    omega
  have hD : sk = false → ds.take l = ds := fun h => List.take_of_length_le (by have h1 := small h; have h2 := HLL.out; have h3 := HN.out; omega)
  refine wp_region_mono 18 RB (V11 sk (.slice a1 n c1) n ds) hm (by kernel_rfl) 30 (by rfl) (by kernel_rfl) RB.refl (fun _ _ _ => RB.trans) V11.keep ?_ ?_
  · refine ⟨?_, ?_, ?_, ?_, ?_, ?_, ?_, ?_, ?_, ?_, ?_, ?_, ?_, ?_, ?_, ?_, ?_, ?_, trivial⟩
    · intro a w1 hs hd hr h1 h2
      exact m_val rfl rfl (g_move (h1 0 (by kernel_rfl)) w1) rfl (RB.refl _) rfl
    · intro a w1 hs hd hr h1 h2
      exact m_val rfl rfl (g_len24 (h2 0 13 (by kernel_rfl)) w1) rfl (RB.refl _) rfl
    · intro a w1 hs hd hr h1 h2
      refine m_val rfl rfl (g_gtr 5000 (h2 1 14 (by kernel_rfl)) w1) ?_ (RB.refl _) rfl
      rw [hbg]; rfl
    · intro a w1 hs hd hr h1 h2
      exact m_val rfl rfl (g_move (h2 2 15 (by kernel_rfl)) w1) rfl (RB.refl _) rfl
    · intro a w1 hs hd hr h1 h2
      have hv := h2 3 16 (by kernel_rfl)
      cases sk
      · exact m_val rfl (want_yes rfl (yielded_of (j := 3) (d := 16) (by kernel_rfl) hv)) (g_move (h1 3 (by kernel_rfl)) w1) (fun _ => by have h := H4.out.below hr.drew; rw [hD rfl] at h; exact h) (RB.refl _) rfl
      · exact m_pass rfl (want_no rfl (yielded_of (j := 3) (d := 16) (by kernel_rfl) hv)) (fun h => by cases h) (RB.refl _)
    · intro a w1 hs hd hr h1 h2
      have hv := h2 3 16 (by kernel_rfl)
      cases sk
      · refine m_val rfl (want_yes rfl (yielded_of (j := 3) (d := 16) (by kernel_rfl) hv)) (g_lenR (h2 4 17 (by kernel_rfl) rfl)) (fun _ => ?_) (RB.refl _) rfl
        rw [Md.md5_length]; rfl
      · exact m_pass rfl (want_no rfl (yielded_of (j := 3) (d := 16) (by kernel_rfl) hv)) (fun h => by cases h) (RB.refl _)
    · intro a w1 hs hd hr h1 h2
      have hv := h2 3 16 (by kernel_rfl)
      cases sk
      · exact m_val rfl (want_yes rfl (yielded_of (j := 3) (d := 16) (by kernel_rfl) hv)) (g_gtr 0 (h2 5 18 (by kernel_rfl) rfl) w1) (fun _ => rfl) (RB.refl _) rfl
      · exact m_pass rfl (want_no rfl (yielded_of (j := 3) (d := 16) (by kernel_rfl) hv)) (fun h => by cases h) (RB.refl _)
    · intro a w1 hs hd hr h1 h2
      have hv := h2 3 16 (by kernel_rfl)
      cases sk
      · exact m_val rfl (want_yes rfl (yielded_of (j := 3) (d := 16) (by kernel_rfl) hv)) (g_move (h2 6 19 (by kernel_rfl) rfl) w1) rfl (RB.refl _) rfl
      · exact m_pass rfl (want_no rfl (yielded_of (j := 3) (d := 16) (by kernel_rfl) hv)) rfl (RB.refl _)
    · intro a w1 hs hd hr h1 h2
      have hv := h2 7 20 (by kernel_rfl)
      cases sk
      · exact m_val rfl (want_yes rfl (yielded_of (j := 7) (d := 20) (by kernel_rfl) hv)) (g_move (h1 3 (by kernel_rfl)) w1) (fun _ => by have h := H4.out.below hr.drew; rw [hD rfl] at h; exact h) (RB.refl _) rfl
      · exact m_pass rfl (want_none rfl (yielded_undef (j := 7) (d := 20) (by kernel_rfl) hv)) (fun h => by cases h) (RB.refl _)
    · intro a w1 hs hd hr h1 h2
      have hv := h2 7 20 (by kernel_rfl)
      cases sk
      · exact m_val rfl (want_yes rfl (yielded_of (j := 7) (d := 20) (by kernel_rfl) hv)) (g_conv (h2 8 21 (by kernel_rfl) rfl)) (fun _ => rfl) (RB.refl _) rfl
      · exact m_pass rfl (want_none rfl (yielded_undef (j := 7) (d := 20) (by kernel_rfl) hv)) (fun h => by cases h) (RB.refl _)
    · intro a w1 hs hd hr h1 h2
      have hv := h2 7 20 (by kernel_rfl)
      cases sk
      · exact m_val rfl (want_yes rfl (yielded_of (j := 7) (d := 20) (by kernel_rfl) hv)) (g_move (h1 0 (by kernel_rfl)) w1) (fun _ => rfl) (RB.refl _) rfl
      · exact m_pass rfl (want_none rfl (yielded_undef (j := 7) (d := 20) (by kernel_rfl) hv)) (fun h => by cases h) (RB.refl _)
    · intro a w1 hs hd hr h1 h2
      have hv := h2 7 20 (by kernel_rfl)
      cases sk
      · have e0 : a.eval (.tmp 23) = .slice a1 n c1 := h2 10 23 (by kernel_rfl) rfl
        obtain ⟨v, w2, e1, e2, e3⟩ := g_build22 (a := a) (d := some 24) (x := .tmp 23) (bs := ds) (by rw [e0]; exact H1.out.below hr.drew)
        exact m_val (w' := w2) rfl (want_yes rfl (yielded_of (j := 7) (d := 20) (by kernel_rfl) hv)) e1 (fun _ => e2) e3 rfl
      · exact m_pass rfl (want_none rfl (yielded_undef (j := 7) (d := 20) (by kernel_rfl) hv)) (fun h => by cases h) (RB.refl _)
    · intro a w1 hs hd hr h1 h2
      have hv := h2 7 20 (by kernel_rfl)
      cases sk
      · have e2 : Pieces w1 (a.eval (.tmp 24)) [ds] := h2 11 24 (by kernel_rfl) rfl
        refine m_call rfl (want_yes rfl (yielded_of (j := 7) (d := 20) (by kernel_rfl) hv)) Try.func24 hb24 hn24 #[.int .i64 7, a.eval (.tmp 24)] (by simp only [List.map_toArray, List.map_cons, List.map_nil, eval_const]) ?_
        refine (hash_any _ _ w1 e2 (by have := small rfl; simpa using this) (by simp)).mono ?_
        rintro e3 w2 ⟨v, rfl, h3, h4⟩
        rw [show ([ds] : List (List UInt8)).flatten = ds by simp] at h3
        exact ⟨v, rfl, fun _ => h3, h4⟩
      · exact m_pass rfl (want_none rfl (yielded_undef (j := 7) (d := 20) (by kernel_rfl) hv)) (fun h => by cases h) (RB.refl _)
    · intro a w1 hs hd hr h1 h2
      have hv := h2 7 20 (by kernel_rfl)
      cases sk
      · exact m_val rfl (want_yes rfl (yielded_of (j := 7) (d := 20) (by kernel_rfl) hv)) (g_conv (h2 12 25 (by kernel_rfl) rfl)) (fun _ => rfl) (RB.refl _) rfl
      · exact m_pass rfl (want_none rfl (yielded_undef (j := 7) (d := 20) (by kernel_rfl) hv)) (fun h => by cases h) (RB.refl _)
    · intro a w1 hs hd hr h1 h2
      have hv := h2 7 20 (by kernel_rfl)
      cases sk
      · exact m_val rfl (want_yes rfl (yielded_of (j := 7) (d := 20) (by kernel_rfl) hv)) (g_eqs (h2 9 22 (by kernel_rfl) rfl) (h2 13 26 (by kernel_rfl) rfl) w1) (fun _ => congrArg Value.bool (decide_eq_true rfl)) (RB.refl _) rfl
      · exact m_pass rfl (want_none rfl (yielded_undef (j := 7) (d := 20) (by kernel_rfl) hv)) (fun h => by cases h) (RB.refl _)
    · intro a w1 hs hd hr h1 h2
      have hv := h2 3 16 (by kernel_rfl)
      cases sk
      · refine m_val rfl (want_yes rfl (yielded_of (j := 3) (d := 16) (by kernel_rfl) hv)) (g_pick (h2 7 20 (by kernel_rfl)) w1) (fun _ => ?_) (RB.refl _) rfl
        exact h2 14 27 (by kernel_rfl) rfl
      · exact m_pass rfl (want_no rfl (yielded_of (j := 3) (d := 16) (by kernel_rfl) hv)) (fun h => by cases h) (RB.refl _)
    · intro a w1 hs hd hr h1 h2
      refine m_val rfl rfl (g_pick (h2 3 16 (by kernel_rfl)) w1) ?_ (RB.refl _) rfl
      cases sk
      · exact h2 15 28 (by kernel_rfl) rfl
      · rfl
    · intro a w1 hs hd hr h1 h2
      exact m_val rfl rfl (g_assign (h2 16 29 (by kernel_rfl)) w1) rfl (RB.refl _) rfl
  · intro a w2 hs hd hr h1 h2
    refine wpList_nil ?_
    go_step
    go_step
    refine wp_ret (bodyPost_ret (results_tmp (t := 2) rfl _ _ _) hd ⟨congrArg Ending.returned (h2 17 2 (by kernel_rfl)), RB.trans (a := w) B3.out hr.drew⟩)
end Go.Proofs.Ytkjapcmnopnblaa
