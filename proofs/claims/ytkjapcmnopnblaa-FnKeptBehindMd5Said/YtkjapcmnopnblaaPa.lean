/- The reference's text filled up. -/
import Derived.Test.YtkjapcmnopnblaaSp
namespace Go.Proofs.Ytkjapcmnopnblaa
open Go.RowKit
set_option linter.unusedVariables false

set_option maxHeartbeats 2000000 in
theorem begin_any (w : World) : Calls Try.prog 27 #[.int .i64 4] w fun e w' => ∃ v, e = .returned v ∧ Words w' v (stL Md.init) ∧ Below w.heap.size w w' := by
  go_enter Try.func27, Try.ntmps27
  go_wp2
  go_ret
  refine ⟨_, rfl, ⟨some ⟨w.heap.size, 0, none⟩, 5, rfl, by simp [stL], by unfold maxLen; omega, fun _ => ⟨w.heap.size, 0, rfl, fun j hj => ?_⟩⟩, (Below.refl _ _).alloc (Nat.le_refl _) _⟩
  have hj : j < 4 := hj
  simp only [World.cell?, heap_alloc_at w _ _ rfl]
  match j, hj with
  | 0, _ => rfl
  | 1, _ => rfl
  | 2, _ => rfl
  | 3, _ => rfl

theorem Owns.slice {w : World} {b : Nat} {v : Value} {bs : List UInt8} (h : Owns w b v bs) : ∃ ad c, v = .slice ad bs.length c ∧ bs.length ≤ c := by
  obtain ⟨ad, c, e, hc, _⟩ := h.reads
  exact ⟨ad, c, e, hc⟩

set_option maxRecDepth 100000 in
set_option maxHeartbeats 4000000 in
theorem padded_any (dv : Value) (ds : List UInt8) (w : World) (h : Reads w dv ds) (hl : ds.length ≤ 100000) :
    Calls Try.prog 44 #[dv, .int .i64 64] w fun e w' => ∃ v tl, tl.length = 8 ∧ e = .returned v ∧ Owns w' w.heap.size v (ds ++ (128 :: (List.replicate (Md.padz ds.length) 0 ++ tl))) ∧ Below w.heap.size w w' := by
  obtain ⟨a1, c1, rfl, hc1, hm1, _⟩ := id h
  obtain ⟨n, hn⟩ : ∃ n, n = ds.length := ⟨_, rfl⟩
  rw [← hn] at hc1 hl ⊢
  have H1 := Lib.hid h
  have HN := Lib.hid hn
  clear h hn
  go_enter Try.func44, Try.ntmps44
  go_wp2_with (refine stand_build ?_)
  refine go_on (s_run rfl (run_empty _ _ _ _ _ _) ?_)
  have bE : Below w.heap.size w (w.alloc (.cells #[] 5)) := (Below.refl _ _).alloc (Nat.le_refl _) _
  have oE := Owns.empty w
  have hz : (w.alloc (.cells #[] 5)).heap.size = w.heap.size + 1 := World.size_alloc _ _
  refine s_mv (v := .slice a1 n c1) rfl ?_
  refine s_app (bs := []) (cs := ds) rfl rfl oE (by have h := H1.out.below bE; rw [← HN.out] at h; exact h) (by rw [← HN.out]; simp; omega) (by omega) (fun v1 w1 o1 g1 e1 => ?_)
  have b1 : Below w.heap.size w w1 := bE.grown g1 (by omega) (fun k hk => by cases hk; exact Nat.le_refl _)
  refine s_build1 (b0 := 128) rfl ?_
  have b2 : Below w1.heap.size w1 (w1.alloc (.cells (([128] : List UInt8).map B).toArray 5)) := (Below.refl _ _).alloc (Nat.le_refl _) _
  have r2 : Row (w1.alloc (.cells (([128] : List UInt8).map B).toArray 5)) w1.heap.size 5 [128] := heap_alloc_at _ _ _ rfl
  generalize (w1.alloc (.cells (([128] : List UInt8).map B).toArray 5)) = w2 at *
  have o2 := o1.below b2
  refine s_app (v := v1) (bs := ds) (cs := [128]) rfl rfl o2 (r2.reads 0 1 1 (by simp) (Nat.le_refl _) (by unfold maxLen; omega)) (by rw [← HN.out]; simp; omega) (Nat.le_trans b1.size b2.size) (fun v3 w3 o3 g3 e3 => ?_)
  have b3 : Below w.heap.size w w3 := Below.grown (RB.trans (a := w) b1 b2) g3 (Nat.le_trans b1.size b2.size) (fun k hk => (o1.fresh k hk).1)
  obtain ⟨a3, c3, rfl, hc3⟩ := o3.slice
  have e9 : (ds ++ [128]).length = n + 1 + 0 := by rw [List.length_append, ← HN.out]; rfl
  rw [e9] at o3 hc3 ⊢
  have O3 := Lib.hid o3
  have B3 := Lib.hid b3
  clear e9 bE oE hz o1 g1 e1 b1 b2 r2 o2 o3 g3 e3 b3
  have hp63 : Md.padz n ≤ 63 := by unfold Md.padz; omega
  have HPZ := Lib.hid (show Md.padz n = (119 - n % 64) % 64 from rfl)
  go_wp2_with fail
  go_loopw [5] (fun p wr => ∃ (i : Nat) (ad : Option Addr) (c : Nat), i ≤ Md.padz n ∧ p = .slice ad (n + 1 + i) c ∧ Hid (Owns wr w.heap.size (.slice ad (n + 1 + i) c) (ds ++ (128 :: List.replicate i 0))) ∧ Hid (Below w.heap.size w wr))
    (fun p _ => n + 100 - lenOf p)
  case atStart => exact ⟨0, a3, c3, Nat.zero_le _, rfl, O3, B3⟩
  case round =>
    obtain ⟨i, ad, c, hi, rfl, ho, hb⟩ := hrel
    obtain ⟨l, hle⟩ : ∃ l, l = n + 1 + i := ⟨_, rfl⟩
    rw [← hle] at ho ⊢
    by_cases h56 : l % 64 = 56
    · have hii : i = Md.padz n := by have := HPZ.out; omega
      have q : (l : Int) % 64 = 56 := by omega
      have HLE := Lib.hid hle
      have HII := Lib.hid hii
      clear hle hii h56
      go_wp2_with fail
      clear q
      go_loopw [5, 6] (fun p kv wr => ∃ (i : Nat) (ad : Option Addr) (c : Nat) (k : Int) (tl : List UInt8), i ≤ 8 ∧ Hid (k = 7 - (i : Int)) ∧ kv = .int .i64 k ∧ p = .slice ad (l + i) c ∧ Hid (tl.length = i) ∧ Hid (Owns wr w.heap.size (.slice ad (l + i) c) (ds ++ (128 :: (List.replicate (Md.padz n) 0 ++ tl)))) ∧ Hid (Below w.heap.size w wr))
        (fun p _ _ => l + 100 - lenOf p)
      case atStart =>
        refine ⟨0, ad, c, 7, [], by omega, rfl, rfl, rfl, rfl, ?_, hb⟩
        have h := ho.out
        rw [HII.out] at h
        rw [List.append_nil]
        exact h
      case round =>
        obtain ⟨i2, ad2, c2, k, tl, hi8, hk, rfl, rfl, htl, ho2, hb2⟩ := hrel
        by_cases h8 : i2 < 8
        · have q1 : (0 : Int) ≤ k := by have := hk.out; omega
          have q2 : k < 8 := by have := hk.out; omega
          have eb : (Value.int .u8 (8 * (n : Int) / 2 ^ (8 * k).toNat % 256)) = B (UInt8.ofNat (8 * n / 2 ^ (8 * k).toNat)) := by
            rw [B_ofNat]
            simp
          have EB := Lib.hid eb
          clear eb
          obtain ⟨bb, hbb⟩ : ∃ bb, bb = UInt8.ofNat (8 * n / 2 ^ (8 * k).toNat) := ⟨_, rfl⟩
          rw [← hbb] at EB
          clear hbb
          go_wp2_with (refine stand_build ?_)
          refine go_on (s_build1 (b0 := bb) EB.out ?_)
          have b2 : Below wr.heap.size wr (wr.alloc (.cells (([bb] : List UInt8).map B).toArray 5)) := (Below.refl _ _).alloc (Nat.le_refl _) _
          have r2 : Row (wr.alloc (.cells (([bb] : List UInt8).map B).toArray 5)) wr.heap.size 5 [bb] := heap_alloc_at _ _ _ rfl
          generalize (wr.alloc (.cells (([bb] : List UInt8).map B).toArray 5)) = w5 at *
          refine s_app (v := .slice ad2 (l + i2) c2) (cs := [bb]) rfl rfl (ho2.out.below b2) (r2.reads 0 1 1 (by simp) (Nat.le_refl _) (by unfold maxLen; omega)) (by have := htl.out; simp [← HN.out]; omega) (Nat.le_trans hb2.out.size b2.size) (fun v4 w4 o4 g4 e4 => ?_)
          have b4 : Below w.heap.size w w4 := Below.grown (RB.trans (a := w) hb2.out b2) g4 (Nat.le_trans hb2.out.size b2.size) (fun k hk => (ho2.out.fresh k hk).1)
          have e5 : ds ++ 128 :: (List.replicate (Md.padz n) 0 ++ tl) ++ [bb] = ds ++ (128 :: (List.replicate (Md.padz n) 0 ++ (tl ++ [bb]))) := by simp
          rw [e5] at o4
          obtain ⟨a4, c4, rfl, _⟩ := o4.slice
          have e9 : (ds ++ (128 :: (List.replicate (Md.padz n) 0 ++ (tl ++ [bb])))).length = l + (i2 + 1) := by
            have h1 := htl.out
            have h2 := HLE.out
            have h3 := HII.out
            simp [← HN.out]
            omega
          rw [e9] at o4 ⊢
          have O4 := Lib.hid o4
          have B4 := Lib.hid b4
          have TL := Lib.hid (show (tl ++ [bb]).length = i2 + 1 by rw [List.length_append, htl.out]; rfl)
          clear b2 r2 o4 g4 e4 b4 e5 e9
          go_wp2
          go_roundw
          case rel => exact ⟨i2 + 1, a4, c4, k - 1, tl ++ [bb], by omega, Lib.hid (by have := hk.out; omega), rfl, rfl, TL, O4, B4⟩
          case measure =>
            show l + 100 - (l + (i2 + 1)) < l + 100 - (l + i2)
            omega
        · have q1 : ¬ (0 : Int) ≤ k := by have := hk.out; omega
          obtain rfl : i2 = 8 := by omega
          go_wp2_with fail
          go_ret
          exact ⟨_, tl, htl.out, rfl, ho2.out, hb2.out⟩
    · have q : (((l : Int) % 64) != 56) = true := by rw [bne_iff_ne]; omega
      have hi2 : i < Md.padz n := by have := HPZ.out; omega
      have HLE := Lib.hid hle
      clear hle h56
      go_wp2_with (refine stand_build ?_)
      refine go_on (s_build1 (b0 := 0) rfl ?_)
      have b2 : Below wr.heap.size wr (wr.alloc (.cells (([0] : List UInt8).map B).toArray 5)) := (Below.refl _ _).alloc (Nat.le_refl _) _
      have r2 : Row (wr.alloc (.cells (([0] : List UInt8).map B).toArray 5)) wr.heap.size 5 [0] := heap_alloc_at _ _ _ rfl
      generalize (wr.alloc (.cells (([0] : List UInt8).map B).toArray 5)) = w5 at *
      refine s_app (v := .slice ad l c) (cs := [0]) rfl rfl (ho.out.below b2) (r2.reads 0 1 1 (by simp) (Nat.le_refl _) (by unfold maxLen; omega)) (by simp [← HN.out]; omega) (Nat.le_trans hb.out.size b2.size) (fun v4 w4 o4 g4 e4 => ?_)
      have b4 : Below w.heap.size w w4 := Below.grown (RB.trans (a := w) hb.out b2) g4 (Nat.le_trans hb.out.size b2.size) (fun k hk => (ho.out.fresh k hk).1)
      have e5 : ds ++ 128 :: List.replicate i 0 ++ [0] = ds ++ (128 :: List.replicate (i + 1) 0) := by
        rw [List.replicate_succ']
        simp
      rw [e5] at o4
      obtain ⟨a4, c4, rfl, _⟩ := o4.slice
      have e9 : (ds ++ (128 :: List.replicate (i + 1) 0)).length = n + 1 + (i + 1) := by simp [← HN.out]; omega
      rw [e9] at o4 ⊢
      have O4 := Lib.hid o4
      have B4 := Lib.hid b4
      clear b2 r2 o4 g4 e4 b4 e5 e9
      go_wp2
      go_roundw
      case rel => exact ⟨i + 1, a4, c4, hi2, rfl, O4, B4⟩
      case measure =>
        have := HLE.out
        show n + 100 - (n + 1 + (i + 1)) < n + 100 - l
        omega
end Go.Proofs.Ytkjapcmnopnblaa
