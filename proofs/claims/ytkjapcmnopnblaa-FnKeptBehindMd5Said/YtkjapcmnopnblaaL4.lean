/- The law FnBlockMd5, walked. -/
import Derived.Test.YtkjapcmnopnblaaIb
namespace Go.Proofs.Ytkjapcmnopnblaa
open Go.RowKit
set_option linter.unusedVariables false

/-- A slice value's length. -/
def lenOf : Value → Nat
  | .slice _ n _ => n
  | _ => 0
/-- From place l on. -/
theorem Reads.from {w : World} {ad : Option Addr} {c : Nat} {bs : List UInt8} (h : Reads w (.slice ad bs.length c) bs) (l : Nat) (hl : l ≤ bs.length) :
    Reads w (.slice (if c = l then ad else ad.map (·.add l)) (bs.length - l) (c - l)) (bs.drop l) := by
  obtain ⟨ad', c', e, h1, h2, h3⟩ := h
  injection e with e1 e2 e3
  subst e1 e3
  refine ⟨_, c - l, by rw [List.length_drop], by rw [List.length_drop]; omega, by omega, fun h0 => ?_⟩
  rw [List.length_drop] at h0
  obtain ⟨b, o, rfl, hc⟩ := h3 (by omega)
  refine ⟨b, o + l, ?_, fun j hj => ?_⟩
  · rw [if_neg (by omega)]
    simp [add_at]
  · rw [List.length_drop] at hj
    rw [Nat.add_assoc, hc (l + j) (by omega)]
    congr 2
    rw [List.getD_eq_getElem?_getD, List.getD_eq_getElem?_getD, List.getElem?_drop]
/-- Up to place l. -/
theorem Reads.upto {w : World} {ad : Option Addr} {c : Nat} {bs : List UInt8} (h : Reads w (.slice ad bs.length c) bs) (l : Nat) (hl : l ≤ bs.length) :
    Reads w (.slice ad l c) (bs.take l) := by
  obtain ⟨ad', c', e, h1, h2, h3⟩ := h
  injection e with e1 e2 e3
  subst e1 e3
  refine ⟨_, c, by rw [List.length_take, Nat.min_eq_left hl], by rw [List.length_take]; omega, h2, fun h0 => ?_⟩
  rw [List.length_take] at h0
  obtain ⟨b, o, rfl, hc⟩ := h3 (by omega)
  refine ⟨b, o, rfl, fun j hj => ?_⟩
  rw [List.length_take] at hj
  rw [hc j (by omega)]
  congr 2
  rw [List.getD_eq_getElem?_getD, List.getD_eq_getElem?_getD, List.getElem?_take, if_pos (by omega)]

theorem stL_of (ws : List Md.W) (h : ws.length = 4) : ∃ s, ws = stL s := by
  match ws, h with
  | [a, b, c, d], _ => exact ⟨⟨a, b, c, d⟩, rfl⟩

set_option maxHeartbeats 2000000 in
theorem law4_early (a1 a2 : Option Addr) (n c1 m c2 : Nat) (w : World) (hn : n ≤ maxLen) (hm : m ≤ maxLen) (h : 2147483647 < n ∨ 2147483647 < m ∨ n ≠ 4 ∨ m % 64 ≠ 0 ∨ 640 < m) :
    Calls Try.prog 4 #[.slice a1 n c1, .slice a2 m c2] w fun e w' => e = .returned (.bool true) ∧ Below w.heap.size w w' := by
  unfold maxLen at hn hm
  by_cases c1' : 2147483647 < n
  · have q1 : (2147483647 : Int) < (n : Int) := by omega
    go_enter Try.func4, Try.ntmps4
    go_wp2
    go_ret
    exact ⟨rfl, Below.refl _ _⟩
  by_cases c2' : 2147483647 < m
  · have q1 : ¬ (2147483647 : Int) < (n : Int) := by omega
    have q2 : (2147483647 : Int) < (m : Int) := by omega
    go_enter Try.func4, Try.ntmps4
    go_wp2
    go_ret
    exact ⟨rfl, Below.refl _ _⟩
  have q1 : ¬ (2147483647 : Int) < (n : Int) := by omega
  have q2 : ¬ (2147483647 : Int) < (m : Int) := by omega
  by_cases c3' : n = 4
  · subst c3'
    by_cases c4' : m % 64 = 0
    · have q4 : (m : Int) % 64 = 0 := by omega
      have q5 : (640 : Int) < (m : Int) := by omega
      have q6 : (((m : Int) % 64) != 0) = false := by simp [q4]
      go_enter Try.func4, Try.ntmps4
      go_wp2
      go_ret
      exact ⟨rfl, Below.refl _ _⟩
    · have q6 : (((m : Int) % 64) != 0) = true := by rw [bne_iff_ne]; omega
      go_enter Try.func4, Try.ntmps4
      go_wp2
      go_ret
      exact ⟨rfl, Below.refl _ _⟩
  · have q3 : ((n : Int) != 4) = true := by rw [bne_iff_ne]; omega
    go_enter Try.func4, Try.ntmps4
    go_wp2
    go_ret
    exact ⟨rfl, Below.refl _ _⟩

set_option maxRecDepth 100000 in
set_option maxHeartbeats 2000000 in
theorem law4_main (hv : Value) (a2 : Option Addr) (c2 : Nat) (s : Md.St) (bs : List UInt8) (w : World) (h1 : Words w hv (stL s)) (h2 : Reads w (.slice a2 bs.length c2) bs) (h64 : bs.length % 64 = 0) (h640 : bs.length ≤ 640) :
    Calls Try.prog 4 #[hv, .slice a2 bs.length c2] w fun e w' => e = .returned (.bool true) ∧ Below w.heap.size w w' := by
  obtain ⟨a1, c1, rfl, hc1, hm1, _⟩ := id h1
  have H1 := Lib.hid h1
  have H2 := Lib.hid h2
  have hlen : (stL s).length = 4 := rfl
  rw [hlen] at hc1 ⊢
  have H1' : Hid (Words w (.slice a1 4 c1) (stL s)) := H1.out
  clear h1 h2 hlen H1
  obtain ⟨m, hm⟩ : ∃ m, m = bs.length := ⟨_, rfl⟩
  rw [← hm] at h64 h640 ⊢
  have HM := Lib.hid hm
  have q2 : ¬ (2147483647 : Int) < (m : Int) := by omega
  have q4 : (m : Int) % 64 = 0 := by omega
  have q5 : ¬ (640 : Int) < (m : Int) := by omega
  have q6 : (((m : Int) % 64) != 0) = false := by simp [q4]
  clear hm
  go_enter Try.func4, Try.ntmps4
  go_wp2_with fail
  refine (implBlock_any _ _ s bs w H1'.out (by rw [HM.out]; exact H2.out) (by rw [← HM.out]; omega)).mono ?_
  rintro e w1 ⟨gv, rfl, hg, hb1⟩
  have HG := Lib.hid hg
  have HB1 := Lib.hid hb1
  clear hg hb1
  go_wp2_with fail
  go_loopw [0, 1] (fun x p wr => ∃ (k : Nat) (ad : Option Addr) (c : Nat), 64 * k ≤ m ∧ p = .slice ad (m - 64 * k) c ∧ m - 64 * k ≤ c ∧ Hid (Reads wr (.slice ad (m - 64 * k) c) (bs.drop (64 * k))) ∧ Hid (Words wr x (stL (Md.blksN k s bs))) ∧ Hid (Words wr gv (stL (Md.blks s bs))) ∧ Hid (Below w.heap.size w wr))
    (fun _ p _ => lenOf p)
  case atStart =>
    refine ⟨0, a2, c2, by omega, rfl, ?_, ?_, ?_, HG, HB1⟩
    · obtain ⟨_, _, e, h, _⟩ := H2.out
      injection e with e1 e2 e3
      rw [HM.out, e3]; omega
    · have h := H2.out.below HB1.out
      rw [← HM.out] at h
      exact h
    · exact H1'.out.below HB1.out
  case round =>
    obtain ⟨k, ad, c, hk, rfl, hc, hp, hx, hgr, hb⟩ := hrel
    by_cases hlt : 64 * k < m
    · obtain ⟨n, hn⟩ : ∃ n, n = m - 64 * k := ⟨_, rfl⟩
      rw [← hn] at hp hc ⊢
      have HN := Lib.hid hn
      have r1 : (0 : Int) < (n : Int) := by omega
      have r2 : 64 ≤ n := by omega
      have r3 : n ≤ 9223372036854775807 := by omega
      clear hn
      have hlen : n = (bs.drop (64 * k)).length := by rw [HN.out, HM.out, List.length_drop]
      have hblk : Md.blksN (k + 1) s bs = Md.blk (Md.blksN k s bs) ((bs.drop (64 * k)).take 64) := by
        rw [Md.blksN_add k 1]; rfl
      have hp1 : Reads wr (.slice ad 64 c) ((bs.drop (64 * k)).take 64) := by
        have h := hp.out
        rw [hlen] at h
        exact h.upto 64 (by omega)
      have HL := Lib.hid hlen
      have HBK := Lib.hid hblk
      have HP1 := Lib.hid hp1
      clear hlen hblk hp1
      by_cases hc64 : c = 64
      all_goals
        go_wp2_with fail
        refine (specBlock_any _ _ (Md.blksN k s bs) ((bs.drop (64 * k)).take 64) _ hx.out ?_ ?_).mono ?_
        · have h := HP1.out
          first | exact h | (rw [hc64] at h; exact h)
        · have := HL.out
          rw [List.length_take]; omega
        rintro e w2 ⟨xv, rfl, hx2, hb2⟩
        have hx3 : Words w2 xv (stL (Md.blksN (k + 1) s bs)) := by rw [HBK.out]; exact hx2
        have hrd := (Reads.from (l := 64) (by have h := hp.out; rw [HL.out] at h; exact h) (by have := HL.out; omega)).below hb2
        rw [List.drop_drop, ← HL.out] at hrd
        have HX2 := Lib.hid hx3
        have HB2 := Lib.hid hb2
        have HRD := Lib.hid hrd
        clear hx2 hb2 hx3 hrd
        go_wp2
        go_roundw
        case rel =>
          have hk1 : m - 64 * (k + 1) = n - 64 := by have := HN.out; omega
          refine ⟨k + 1, _, _, by have := HN.out; omega, by rw [hk1], by rw [hk1]; omega, ?_, HX2, hgr.out.below HB2.out, RB.trans (a := w) hb.out HB2.out⟩
          have h := HRD.out
          rw [hk1, show 64 * (k + 1) = 64 * k + 64 by omega]
          simp only [hc64, if_true, if_false] at h
          exact h
        case measure =>
          show n - 64 < n
          omega
    · obtain ⟨n, hn⟩ : ∃ n, n = m - 64 * k := ⟨_, rfl⟩
      have hn0 : n = 0 := by omega
      have hkk : Md.blksN k s bs = Md.blks s bs := by
        unfold Md.blks
        rw [← HM.out, show m / 64 = k by omega]
      rw [hkk] at hx
      rw [← hn, hn0] at hp hc ⊢
      clear hkk hn hn0 hp
      have HK := Lib.hid hk
      clear hk hlt
      go_wp2_with fail
      refine (same32_any _ _ _ _ hgr.out hx.out).mono ?_
      rintro e w2 ⟨rfl, hd⟩
      have HB2 := Lib.hid (below_dr (n := w.heap.size) hd)
      clear hd
      go_wp2
      go_ret
      exact ⟨rfl, Below.trans hb.out HB2.out⟩

theorem law4 (hv : Value) (pv : Value) (ws : List Md.W) (bs : List UInt8) (w : World) (h1 : Words w hv ws) (h2 : Reads w pv bs) :
    Calls Try.prog 4 #[hv, pv] w fun e w' => e = .returned (.bool true) ∧ Below w.heap.size w w' := by
  obtain ⟨a1, c1, rfl, hc1, hm1, _⟩ := id h1
  obtain ⟨a2, c2, rfl, hc2, hm2, _⟩ := id h2
  by_cases h4 : ws.length = 4
  · by_cases h64 : bs.length % 64 = 0
    · by_cases h640 : bs.length ≤ 640
      · obtain ⟨s, rfl⟩ := stL_of ws h4
        exact law4_main _ _ _ s bs w h1 h2 h64 h640
      · exact law4_early _ _ _ _ _ _ w (by omega) (by omega) (by omega)
    · exact law4_early _ _ _ _ _ _ w (by omega) (by omega) (by omega)
  · exact law4_early _ _ _ _ _ _ w (by omega) (by omega) (by omega)
end Go.Proofs.Ytkjapcmnopnblaa
