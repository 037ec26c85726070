/- The law FnBlockMd5Apart, walked. -/
import Derived.Test.YtkjapcmnopnblaaL4
namespace Go.Proofs.Ytkjapcmnopnblaa
open Go.RowKit
set_option linter.unusedVariables false

set_option maxRecDepth 100000 in
set_option maxHeartbeats 4000000 in
theorem law5_early (a1 a2 a3 : Option Addr) (n c1 m c2 k c3 : Nat) (w : World) (hn : n ≤ maxLen) (hm : m ≤ maxLen) (hk : k ≤ maxLen) (h : 2147483647 < n ∨ 2147483647 < m ∨ 2147483647 < k ∨ n ≠ 4 ∨ m % 64 ≠ 0 ∨ k % 64 ≠ 0 ∨ 640 < m + k) :
    Calls Try.prog 5 #[.slice a1 n c1, .slice a2 m c2, .slice a3 k c3] w fun e w' => e = .returned (.bool true) ∧ Below w.heap.size w w' := by
  unfold maxLen at hn hm hk
  by_cases c1' : 2147483647 < n
  · have q1 : (2147483647 : Int) < (n : Int) := by omega
    go_enter Try.func5, Try.ntmps5
    go_wp2
    go_ret
    exact ⟨rfl, Below.refl _ _⟩
  have q1 : ¬ (2147483647 : Int) < (n : Int) := by omega
  by_cases c2' : 2147483647 < m
  · have q2 : (2147483647 : Int) < (m : Int) := by omega
    go_enter Try.func5, Try.ntmps5
    go_wp2
    go_ret
    exact ⟨rfl, Below.refl _ _⟩
  have q2 : ¬ (2147483647 : Int) < (m : Int) := by omega
  by_cases c3' : 2147483647 < k
  · have q3 : (2147483647 : Int) < (k : Int) := by omega
    go_enter Try.func5, Try.ntmps5
    go_wp2
    go_ret
    exact ⟨rfl, Below.refl _ _⟩
  have q3 : ¬ (2147483647 : Int) < (k : Int) := by omega
  by_cases c4' : n = 4
  case neg =>
    have q4 : ((n : Int) != 4) = true := by rw [bne_iff_ne]; omega
    go_enter Try.func5, Try.ntmps5
    go_wp2
    go_ret
    exact ⟨rfl, Below.refl _ _⟩
  subst c4'
  by_cases c5' : m % 64 = 0
  case neg =>
    have q6 : (((m : Int) % 64) != 0) = true := by rw [bne_iff_ne]; omega
    go_enter Try.func5, Try.ntmps5
    go_wp2
    go_ret
    exact ⟨rfl, Below.refl _ _⟩
  have q5 : (((m : Int) % 64) != 0) = false := by simp; omega
  by_cases c6' : k % 64 = 0
  case neg =>
    have q6 : (((k : Int) % 64) != 0) = true := by rw [bne_iff_ne]; omega
    go_enter Try.func5, Try.ntmps5
    go_wp2
    go_ret
    exact ⟨rfl, Below.refl _ _⟩
  have q6 : (((k : Int) % 64) != 0) = false := by simp; omega
  have q7 : (640 : Int) < (m : Int) + (k : Int) := by omega
  have q8 : (m : Int) + (k : Int) ≤ 9223372036854775807 := by omega
  go_enter Try.func5, Try.ntmps5
  go_wp2
  go_ret
  exact ⟨rfl, Below.refl _ _⟩

/-- The walk stands still here. -/
@[irreducible] def Stand (p : Prop) : Prop := p
theorem stand_build {P : Program} {ops : Array Oper} {Q : Exit → Act → World → Prop} {a : Act} {w : World} {rest : List Oper} {d : Option Tmp} {t : TypeId} {n : Nat} {xs : Array (Nat × Operand)} {ty : TypeId} {pos : String} {af : Array Edge} {gd : Option (Nat × Bool)}
    (h : Stand (wpList P ops Q ({ dst := d, op := .buildSlice t n xs, type := ty, pos := pos, after := af, guard := gd } :: rest) a w)) :
    wpList P ops Q ({ dst := d, op := .buildSlice t n xs, type := ty, pos := pos, after := af, guard := gd } :: rest) a w := by
  unfold Stand at h; exact h
theorem stand_app {P : Program} {ops : Array Oper} {Q : Exit → Act → World → Prop} {a : Act} {w : World} {rest : List Oper} {d : Option Tmp} {xs : Array Operand} {ats : Array TypeId} {ty : TypeId} {pos : String} {af : Array Edge} {gd : Option (Nat × Bool)}
    (h : Stand (wpList P ops Q ({ dst := d, op := .call { callee := .builtin .append, args := xs, argTypes := ats }, type := ty, pos := pos, after := af, guard := gd } :: rest) a w)) :
    wpList P ops Q ({ dst := d, op := .call { callee := .builtin .append, args := xs, argTypes := ats }, type := ty, pos := pos, after := af, guard := gd } :: rest) a w := by
  unfold Stand at h; exact h
theorem go_on {p : Prop} (h : p) : Stand p := by unfold Stand; exact h

theorem Owns.empty (w : World) : Owns (w.alloc (.cells #[] 5)) w.heap.size (.slice (some ⟨w.heap.size, 0, none⟩) 0 0) [] := by
  refine ⟨rfl, .inr ⟨w.heap.size, 0, #[], rfl, Nat.le_refl _, heap_alloc_at _ _ _ rfl, Nat.le_refl _, by unfold maxLen; omega, rfl, rfl⟩⟩
theorem run_empty (w : World) (a : Act) (d : Option Tmp) (ty : TypeId) (pos : String) (af : Array Edge) : (execOp a.eval { dst := d, op := .buildSlice 24 0 #[], type := ty, pos := pos, after := af, guard := none }).run Try.prog w = .ok (.value (.slice (some ⟨w.heap.size, 0, none⟩) 0 0)) (w.alloc (.cells #[] 5)) := by
  simp [execOp, go_sem]

set_option maxRecDepth 100000 in
set_option maxHeartbeats 4000000 in
theorem law5_main (hv : Value) (a2 a3 : Option Addr) (c2 c3 : Nat) (s : Md.St) (ps qs : List UInt8) (w : World) (h1 : Words w hv (stL s)) (h2 : Reads w (.slice a2 ps.length c2) ps) (h3 : Reads w (.slice a3 qs.length c3) qs) (hp64 : ps.length % 64 = 0) (hq64 : qs.length % 64 = 0) (h640 : ps.length + qs.length ≤ 640) :
    Calls Try.prog 5 #[hv, .slice a2 ps.length c2, .slice a3 qs.length c3] w fun e w' => e = .returned (.bool true) ∧ Below w.heap.size w w' := by
  obtain ⟨a1, c1, rfl, hc1, hm1, _⟩ := id h1
  have hlen : (stL s).length = 4 := rfl
  rw [hlen] at hc1 ⊢
  have H1 : Hid (Words w (.slice a1 4 c1) (stL s)) := Lib.hid (show Words w (.slice a1 4 c1) (stL s) from h1)
  have H2 := Lib.hid h2
  have H3 := Lib.hid h3
  clear h1 h2 h3 hlen
  obtain ⟨m, hm⟩ : ∃ m, m = ps.length := ⟨_, rfl⟩
  obtain ⟨k, hk⟩ : ∃ k, k = qs.length := ⟨_, rfl⟩
  rw [← hm] at hp64 h640 ⊢
  rw [← hk] at hq64 h640 ⊢
  have HM := Lib.hid hm
  have HK := Lib.hid hk
  have q2 : ¬ (2147483647 : Int) < (m : Int) := by omega
  have q3 : ¬ (2147483647 : Int) < (k : Int) := by omega
  have q5 : (((m : Int) % 64) != 0) = false := by simp; omega
  have q6 : (((k : Int) % 64) != 0) = false := by simp; omega
  have q7 : ¬ (640 : Int) < (m : Int) + (k : Int) := by omega
  have q8 : (m : Int) + (k : Int) ≤ 9223372036854775807 := by omega
  clear hm hk
  go_enter Try.func5, Try.ntmps5
  go_wp2_with (refine stand_build ?_)
  refine go_on (s_run rfl (run_empty _ _ _ _ _ _) ?_)
  refine s_mv (v := .slice a2 m c2) rfl ?_
  have hE : Below w.heap.size w (w.alloc (.cells #[] 5)) := (Below.refl _ _).alloc (Nat.le_refl _) _
  have hz : (w.alloc (.cells #[] 5)).heap.size = w.heap.size + 1 := World.size_alloc _ _
  refine s_app (bs := []) (cs := ps) rfl rfl (Owns.empty w) (by have h := H2.out.below hE; rw [← HM.out] at h; exact h) (by rw [← HM.out]; simp; omega) (by omega) (fun v1 w1 o1 g1 e1 => ?_)
  have b1 : Below w.heap.size w w1 := hE.grown g1 (by omega) (fun k hk => by cases hk; exact Nat.le_refl _)
  refine s_mv (v := .slice a3 k c3) rfl ?_
  refine s_app (bs := ps) (cs := qs) rfl rfl o1 (by have h := H3.out.below b1; rw [← HK.out] at h; exact h) (by rw [← HM.out, ← HK.out]; omega) b1.size (fun v2 w2 o2 g2 e2 => ?_)
  have b2 : Below w.heap.size w w2 := b1.grown g2 b1.size (fun k hk => (o1.fresh k hk).1)
  have O2 := Lib.hid o2.reads
  have B2 := Lib.hid b2
  clear o1 g1 e1 b1 o2 g2 e2 b2 hE hz
  go_wp2_with fail
  refine (implBlock_any _ _ s (ps ++ qs) w2 (H1.out.below B2.out) O2.out (by rw [List.length_append, ← HM.out, ← HK.out]; omega)).mono ?_
  rintro e w3 ⟨gv, rfl, hg, hb3⟩
  obtain ⟨a4, c4, rfl, hc4, hm4, _⟩ := id hg
  have G3 := Lib.hid (show Words w3 (.slice a4 4 c4) (stL (Md.blks s (ps ++ qs))) from hg)
  have B3 := Lib.hid (RB.trans (a := w) B2.out hb3)
  have h44 : (stL (Md.blks s (ps ++ qs))).length = 4 := rfl
  rw [h44] at hc4 ⊢
  clear hg hb3 h44 B2 O2
  go_wp2_with fail
  refine (implBlock_any _ _ s ps w3 (H1.out.below B3.out) (by have h := H2.out.below B3.out; rw [← HM.out] at h; exact h) (by rw [← HM.out]; omega)).mono ?_
  rintro e w4 ⟨xv, rfl, hx, hb4⟩
  have X4 := Lib.hid hx
  have B4 := Lib.hid (RB.trans (a := w) B3.out hb4)
  have G4 := Lib.hid (G3.out.below hb4)
  clear hx hb4 B3 G3
  go_wp2_with fail
  refine (implBlock_any _ _ (Md.blks s ps) qs w4 X4.out (by have h := H3.out.below B4.out; rw [← HK.out] at h; exact h) (by rw [← HK.out]; omega)).mono ?_
  rintro e w5 ⟨yv, rfl, hy, hb5⟩
  have hap : Md.blks (Md.blks s ps) qs = Md.blks s (ps ++ qs) := (Md.blks_append s ps qs (by rw [← HM.out]; omega)).symm
  rw [hap] at hy
  have Y5 := Lib.hid hy
  have B5 := Lib.hid (RB.trans (a := w) B4.out hb5)
  have G5 := Lib.hid (G4.out.below hb5)
  clear hy hb5 B4 G4 hap
  go_wp2_with fail
  refine (same32_any _ _ _ w5 G5.out Y5.out).mono ?_
  rintro e w6 ⟨rfl, hd⟩
  have B6 := Lib.hid (Below.trans B5.out (below_dr hd))
  clear hd
  go_wp2
  go_ret
  exact ⟨rfl, B6.out⟩

theorem law5 (hv pv qv : Value) (ws : List Md.W) (ps qs : List UInt8) (w : World) (h1 : Words w hv ws) (h2 : Reads w pv ps) (h3 : Reads w qv qs) :
    Calls Try.prog 5 #[hv, pv, qv] w fun e w' => e = .returned (.bool true) ∧ Below w.heap.size w w' := by
  obtain ⟨a1, c1, rfl, hc1, hm1, _⟩ := id h1
  obtain ⟨a2, c2, rfl, hc2, hm2, _⟩ := id h2
  obtain ⟨a3, c3, rfl, hc3, hm3, _⟩ := id h3
  by_cases h : ws.length = 4 ∧ ps.length % 64 = 0 ∧ qs.length % 64 = 0 ∧ ps.length + qs.length ≤ 640
  · obtain ⟨h4, hp, hq, h640⟩ := h
    obtain ⟨s, rfl⟩ := stL_of ws h4
    exact law5_main _ _ _ _ _ s ps qs w h1 h2 h3 hp hq h640
  · exact law5_early _ _ _ _ _ _ _ _ _ w (by omega) (by omega) (by omega) (by omega)
end Go.Proofs.Ytkjapcmnopnblaa
