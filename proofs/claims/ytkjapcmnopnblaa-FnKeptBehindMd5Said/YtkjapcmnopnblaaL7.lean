/- The law FnOneMd5, walked. -/
import Derived.Test.YtkjapcmnopnblaaCv
namespace Go.Proofs.Ytkjapcmnopnblaa
open Go.RowKit
set_option linter.unusedVariables false

theorem hb25 : Try.f25.body.isNone = false := by kernel_rfl
theorem hn25 : (Try.f25.name == "runtime.NumGoroutine") = false := by kernel_rfl
theorem hb19 : Try.f19.body.isNone = false := by kernel_rfl
theorem hn19 : (Try.f19.name == "runtime.NumGoroutine") = false := by kernel_rfl
/-- The values of the law's region 3; big: more than 5000 bytes. -/
def V7 (big : Bool) (dv : Value) (n : Nat) (ds : List UInt8) (j : Nat) (v : Value) (w : World) : Prop :=
  match j with
  | 0 => v = dv
  | 1 => v = .int .i64 (n : Int)
  | 2 | 3 => v = .bool big
  | 4 | 7 => big = false → v = dv
  | 5 | 8 => big = false → Reads w v (Md.md5 ds)
  | 6 | 9 => big = false → v = strB (Md.md5 ds)
  | 10 => big = false → v = .bool true
  | _ => v = .bool true
theorem V7.keep {big : Bool} {dv : Value} {n : Nat} {ds : List UInt8} (j : Nat) (v : Value) (w w' : World) (h : V7 big dv n ds j v w) (hr : RB w w') : V7 big dv n ds j v w' := by
  match j, h with
  | 0, h => exact h
  | 1, h => exact h
  | 2, h => exact h
  | 3, h => exact h
  | 4, h => exact h
  | 7, h => exact h
  | 5, h => exact fun hb => Reads.below (h hb) hr
  | 8, h => exact fun hb => Reads.below (h hb) hr
  | 6, h => exact h
  | 9, h => exact h
  | 10, h => exact h
  | n + 11, h => exact h

set_option maxRecDepth 100000 in
set_option maxHeartbeats 4000000 in
theorem law7 (dv : Value) (ds : List UInt8) (w : World) (h : Reads w dv ds) :
    Calls Try.prog 7 #[dv] w fun e w' => e = .returned (.bool true) ∧ Below w.heap.size w w' := by
  obtain ⟨a1, c1, rfl, hc1, hm1, _⟩ := id h
  obtain ⟨n, hn⟩ : ∃ n, n = ds.length := ⟨_, rfl⟩
  rw [← hn] at hc1 ⊢
  have H1 : Hid (Reads w (.slice a1 n c1) ds) := Lib.hid (by have h2 := h; rw [← hn] at h2; exact h2)
  have HN := Lib.hid hn
  clear h hn
  by_cases hbig : 2147483647 < n
  · have q1 : (2147483647 : Int) < (n : Int) := by omega
    go_enter Try.func7, Try.ntmps7
    go_wp2
    go_ret
    exact ⟨rfl, Below.refl _ _⟩
  have q1 : ¬ (2147483647 : Int) < (n : Int) := by omega
  go_enter Try.func7, Try.ntmps7
  go_wp2_with fail
  refine wp_region_mono 13 RB (V7 (decide ((5000 : Int) < (n : Int))) (.slice a1 n c1) n ds) hm (by kernel_rfl) 18 (by rfl) (by kernel_rfl) RB.refl (fun _ _ _ => RB.trans) V7.keep ?_ ?_
  · have hsmall : ∀ {b : Bool}, b = decide ((5000 : Int) < (n : Int)) → b = false → ds.length ≤ 5000 := by
      intro b h1 h2
      rw [h2] at h1
      have h3 := of_decide_eq_false h1.symm
      have h4 := HN.out
      omega
    obtain ⟨big, hbg⟩ : ∃ b, b = decide ((5000 : Int) < (n : Int)) := ⟨_, rfl⟩
    rw [← hbg]
    have hg : ∀ {o : Oper} {y : Nat → Option Bool}, o.guard = some (3, false) → y 3 = some big → Region.wanted o y = !big := by
      intro o y h1 h2
      rw [want_some (l := []) h1 h2]
      cases big <;> rfl
    have small := hsmall hbg
    clear hsmall
    refine ⟨?_, ?_, ?_, ?_, ?_, ?_, ?_, ?_, ?_, ?_, ?_, ?_, ?_, trivial⟩
    · intro a w1 hs hd hr h1 h2
      exact m_val rfl rfl (e_move (h1 0 (by kernel_rfl)) w1) rfl (RB.refl _) rfl
    · intro a w1 hs hd hr h1 h2
      exact m_val rfl rfl (g_len24 (h2 0 6 (by kernel_rfl)) w1) rfl (RB.refl _) rfl
    · intro a w1 hs hd hr h1 h2
      refine m_val rfl rfl (g_gtr 5000 (h2 1 7 (by kernel_rfl)) w1) ?_ (RB.refl _) rfl
      rw [hbg]; rfl
    · intro a w1 hs hd hr h1 h2
      exact m_val rfl rfl (e_move (h2 2 8 (by kernel_rfl)) w1) rfl (RB.refl _) rfl
    · intro a w1 hs hd hr h1 h2
      have hv := h2 3 9 (by kernel_rfl)
      cases big
      · exact m_val rfl (hg rfl (yielded_of (j := 3) (d := 9) (by kernel_rfl) hv)) (g_move (h1 0 (by kernel_rfl)) w1) (fun _ => rfl) (RB.refl _) rfl
      · exact m_pass rfl (hg rfl (yielded_of (j := 3) (d := 9) (by kernel_rfl) hv)) (fun h => by cases h) (RB.refl _)
    · intro a w1 hs hd hr h1 h2
      have hv := h2 3 9 (by kernel_rfl)
      cases big
      · have e := h2 4 10 (by kernel_rfl) rfl
        refine m_call rfl (hg rfl (yielded_of (j := 3) (d := 9) (by kernel_rfl) hv)) Try.func25 hb25 hn25 #[.slice a1 n c1] (by simp only [List.map_toArray, List.map_cons, List.map_nil, e]) ?_
        refine (one_any _ ds w1 (H1.out.below hr.drew) (by have := small rfl; omega)).mono ?_
        rintro e1 w2 ⟨v, rfl, h3, h4⟩
        exact ⟨v, rfl, fun _ => h3, h4⟩
      · exact m_pass rfl (hg rfl (yielded_of (j := 3) (d := 9) (by kernel_rfl) hv)) (fun h => by cases h) (RB.refl _)
    · intro a w1 hs hd hr h1 h2
      have hv := h2 3 9 (by kernel_rfl)
      cases big
      · exact m_val rfl (hg rfl (yielded_of (j := 3) (d := 9) (by kernel_rfl) hv)) (g_conv (h2 5 11 (by kernel_rfl) rfl)) (fun _ => rfl) (RB.refl _) rfl
      · exact m_pass rfl (hg rfl (yielded_of (j := 3) (d := 9) (by kernel_rfl) hv)) (fun h => by cases h) (RB.refl _)
    · intro a w1 hs hd hr h1 h2
      have hv := h2 3 9 (by kernel_rfl)
      cases big
      · exact m_val rfl (hg rfl (yielded_of (j := 3) (d := 9) (by kernel_rfl) hv)) (g_move (h1 0 (by kernel_rfl)) w1) (fun _ => rfl) (RB.refl _) rfl
      · exact m_pass rfl (hg rfl (yielded_of (j := 3) (d := 9) (by kernel_rfl) hv)) (fun h => by cases h) (RB.refl _)
    · intro a w1 hs hd hr h1 h2
      have hv := h2 3 9 (by kernel_rfl)
      cases big
      · have e := h2 7 13 (by kernel_rfl) rfl
        refine m_call rfl (hg rfl (yielded_of (j := 3) (d := 9) (by kernel_rfl) hv)) Try.func19 hb19 hn19 #[.slice a1 n c1] (by simp only [List.map_toArray, List.map_cons, List.map_nil, e]) ?_
        refine (specMd5_any _ ds w1 (H1.out.below hr.drew) (by have := small rfl; omega)).mono ?_
        rintro e1 w2 ⟨v, rfl, h3, h4⟩
        exact ⟨v, rfl, fun _ => h3, h4⟩
      · exact m_pass rfl (hg rfl (yielded_of (j := 3) (d := 9) (by kernel_rfl) hv)) (fun h => by cases h) (RB.refl _)
    · intro a w1 hs hd hr h1 h2
      have hv := h2 3 9 (by kernel_rfl)
      cases big
      · exact m_val rfl (hg rfl (yielded_of (j := 3) (d := 9) (by kernel_rfl) hv)) (g_conv (h2 8 14 (by kernel_rfl) rfl)) (fun _ => rfl) (RB.refl _) rfl
      · exact m_pass rfl (hg rfl (yielded_of (j := 3) (d := 9) (by kernel_rfl) hv)) (fun h => by cases h) (RB.refl _)
    · intro a w1 hs hd hr h1 h2
      have hv := h2 3 9 (by kernel_rfl)
      cases big
      · refine m_val rfl (hg rfl (yielded_of (j := 3) (d := 9) (by kernel_rfl) hv)) (g_eqs (h2 6 12 (by kernel_rfl) rfl) (h2 9 15 (by kernel_rfl) rfl) w1) (fun _ => ?_) (RB.refl _) rfl
        rw [decide_eq_true rfl]
      · exact m_pass rfl (hg rfl (yielded_of (j := 3) (d := 9) (by kernel_rfl) hv)) (fun h => by cases h) (RB.refl _)
    · intro a w1 hs hd hr h1 h2
      refine m_val rfl rfl (g_pick (h2 3 9 (by kernel_rfl)) w1) ?_ (RB.refl _) rfl
      cases big
      · exact h2 10 16 (by kernel_rfl) rfl
      · rfl
    · intro a w1 hs hd hr h1 h2
      exact m_val rfl rfl (g_assign (h2 11 17 (by kernel_rfl)) w1) rfl (RB.refl _) rfl
  · intro a w1 hs hd hr h1 h2
    refine wpList_nil ?_
    go_step
    go_step
    refine wp_ret (bodyPost_ret (results_tmp (t := 2) rfl _ _ _) hd ⟨congrArg Ending.returned (h2 12 2 (by kernel_rfl)), hr.drew⟩)
end Go.Proofs.Ytkjapcmnopnblaa
