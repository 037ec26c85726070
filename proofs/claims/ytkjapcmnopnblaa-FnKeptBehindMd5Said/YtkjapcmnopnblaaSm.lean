/- spec.Md5: the hash by the reference. -/
import Derived.Test.YtkjapcmnopnblaaPm
namespace Go.Proofs.Ytkjapcmnopnblaa
open Go.RowKit
set_option linter.unusedVariables false

set_option maxRecDepth 100000 in
set_option maxHeartbeats 4000000 in
theorem specMd5_any (dv : Value) (ds : List UInt8) (w : World) (h : Reads w dv ds) (hl : ds.length ≤ 100000) :
    Calls Try.prog 19 #[dv] w fun e w' => ∃ v, e = .returned v ∧ Reads w' v (Md.md5 ds) ∧ Below w.heap.size w w' := by
  have H1 := Lib.hid h
  have HL := Lib.hid hl
  clear h hl
  go_enter Try.func19, Try.ntmps19
  go_wp2_with fail
  refine (begin_any w).mono ?_
  rintro e w1 ⟨v1, rfl, hw1, hb1⟩
  have W1 := Lib.hid hw1
  have B1 := Lib.hid hb1
  clear hw1 hb1
  go_wp2_with fail
  refine (paddedMd5_any dv ds w1 (H1.out.below B1.out) HL.out).mono ?_
  rintro e w2 ⟨v2, rfl, ho2, hb2⟩
  obtain ⟨a2, c2, rfl, hc2⟩ := ho2.slice
  obtain ⟨bs, hbs⟩ : ∃ bs, bs = Md.padded ds := ⟨_, rfl⟩
  have h64 : bs.length % 64 = 0 := by rw [hbs]; exact Md.padded_length ds
  rw [← hbs] at ho2 hc2 ⊢
  have hm2 := ho2.reads.length_le
  unfold maxLen at hm2
  obtain ⟨m, hm⟩ : ∃ m, m = bs.length := ⟨_, rfl⟩
  rw [← hm] at ho2 hc2 hm2 h64 ⊢
  have HM := Lib.hid hm
  have R2 := Lib.hid ho2.reads
  have W2 := Lib.hid (W1.out.below hb2)
  have B2 := Lib.hid (RB.trans (a := w) B1.out hb2)
  have HBS := Lib.hid hbs
  clear ho2 hb2 hm hbs
  go_wp2_with fail
  go_loopw [3, 4] (fun x p wr => ∃ (k : Nat) (ad : Option Addr) (c n : Nat), 64 * k ≤ m ∧ Hid (n = m - 64 * k) ∧ p = .slice ad n c ∧ Hid (Reads wr (.slice ad n c) (bs.drop (64 * k))) ∧ Hid (Words wr x (stL (Md.blksN k Md.init bs))) ∧ Hid (Below w.heap.size w wr))
    (fun _ p _ => lenOf p)
  case atStart => exact ⟨0, a2, c2, m, by omega, rfl, rfl, R2, W2, B2⟩
  case round =>
    obtain ⟨k, ad, c, n, hk, hn, rfl, hp, hx, hb⟩ := hrel
    by_cases hlt : 64 * k < m
    · have r1 : (0 : Int) < (n : Int) := by have := hn.out; omega
      have r2 : 64 ≤ n := by have := hn.out; omega
      have r3 : n ≤ 9223372036854775807 := by have := hn.out; omega
      have hlen : n = (bs.drop (64 * k)).length := by rw [hn.out, HM.out, List.length_drop]
      have HLEN := Lib.hid hlen
      have hk2 : 64 * (k + 1) ≤ m := by omega
      clear hlen hlt
      go_wp2_with (refine stand_slice ?_)
      refine go_on (s_upto (bs := bs.drop (64 * k)) 64 rfl rfl HLEN.out hp.out r2 (fun r4 => ?_))
      have R4 := Lib.hid r4
      clear r4
      go_wp2_with fail
      refine (specBlock_any _ _ (Md.blksN k Md.init bs) ((bs.drop (64 * k)).take 64) _ hx.out R4.out (by rw [List.length_take, ← HLEN.out]; omega)).mono ?_
      rintro e w3 ⟨xv, rfl, hx3, hb3⟩
      have hblk : Md.blksN (k + 1) Md.init bs = Md.blk (Md.blksN k Md.init bs) ((bs.drop (64 * k)).take 64) := by
        rw [Md.blksN_add k 1]; rfl
      rw [← hblk] at hx3
      have X3 := Lib.hid hx3
      have P3 := Lib.hid (hp.out.below hb3)
      have B3 := Lib.hid (RB.trans (a := w) hb.out hb3)
      clear hx3 hb3 hblk hp hx hb R4
      go_wp2_with (refine stand_slice ?_)
      refine go_on (s_from (bs := bs.drop (64 * k)) 64 rfl rfl HLEN.out P3.out r2 (fun ad' c' r5 own5 => ?_))
      rw [List.drop_drop, show 64 * k + 64 = 64 * (k + 1) by omega] at r5
      have R5 := Lib.hid r5
      have hn5 : n - 64 = m - 64 * (k + 1) := by have := hn.out; omega
      have HN5 := Lib.hid hn5
      clear r5 own5 hn5
      go_wp2
      go_roundw
      case rel => exact ⟨k + 1, ad', c', n - 64, hk2, HN5, rfl, R5, X3, B3⟩
      case measure =>
        show n - 64 < n
        omega
    · obtain rfl : n = 0 := by have := hn.out; omega
      have hkk : Md.blksN k Md.init bs = Md.blks Md.init bs := by
        unfold Md.blks
        rw [← HM.out, show m / 64 = k by omega]
      rw [hkk] at hx
      clear hkk hn hk hlt hp
      go_wp2_with fail
      refine (low32_any _ _ _ hx.out (by simp [stL])).mono ?_
      rintro e w5 ⟨v5, rfl, o5, b5⟩
      have e5 : lows (stL (Md.blks Md.init bs)) = Md.md5 ds := by rw [lows_stL, HBS.out]; rfl
      rw [e5] at o5
      have O5 := Lib.hid o5.reads
      have B5 := Lib.hid (RB.trans (a := w) hb.out b5)
      clear o5 b5 e5
      go_wp2_with fail
      go_ret
      exact ⟨_, rfl, O5.out, B5.out⟩
end Go.Proofs.Ytkjapcmnopnblaa
