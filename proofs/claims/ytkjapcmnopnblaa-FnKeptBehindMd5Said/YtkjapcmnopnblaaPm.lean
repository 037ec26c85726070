/- The reference's text filled up for MD5. -/
import Derived.Test.YtkjapcmnopnblaaPa
namespace Go.Proofs.Ytkjapcmnopnblaa
open Go.RowKit
set_option linter.unusedVariables false

theorem Owns.cell {w : World} {base g n c : Nat} {bs : List UInt8} (h : Owns w base (.slice (some ⟨g, 0, none⟩) n c) bs) (j : Nat) (hj : j < bs.length) : w.cell? ⟨g, j, none⟩ = some (B (bs.getD j 0)) := by
  obtain ⟨ad, c2, e, _, _, hc⟩ := h.reads
  obtain ⟨b, o, e2, hcl⟩ := hc (by omega)
  injection e with e3 e4 e5
  subst e2
  injection e3 with e6
  injection e6 with e7 e8
  subst e7 e8
  have h := hcl j hj
  rw [Nat.zero_add] at h
  exact h
theorem Owns.parts {w : World} {base g n c : Nat} {bs : List UInt8} (h : Owns w base (.slice (some ⟨g, 0, none⟩) n c) bs) : ∃ C, w.heap[g]? = some (.cells C 5 (0, 0)) ∧ base ≤ g ∧ n ≤ c ∧ c ≤ maxLen ∧ C.size = c ∧ C.toList.take bs.length = bs.map B := by
  obtain ⟨h1, h2⟩ := h
  rcases h2 with ⟨e, _⟩ | ⟨g2, cap, cur, e, hb, hg, hn, hc, hs, ht⟩
  · cases e
  · injection e with e1 e2 e3
    injection e1 with e1
    injection e1 with e1 _
    subst e1 e3
    refine ⟨cur, hg, hb, by omega, hc, by omega, by simpa using ht⟩
theorem Owns.free {w : World} {base g n c : Nat} {bs : List UInt8} (h : Owns w base (.slice (some ⟨g, 0, none⟩) n c) bs) (j : Nat) : w.frozen? ⟨g, j, none⟩ = false := by
  obtain ⟨C, hC, _⟩ := h.parts
  simp [World.frozen?, hC]
theorem Owns.set {w : World} {base g n c : Nat} {bs : List UInt8} (h : Owns w base (.slice (some ⟨g, 0, none⟩) n c) bs) (j : Nat) (b : UInt8) (hj : j < bs.length) : Owns (w.setCell ⟨g, j, none⟩ (B b)) base (.slice (some ⟨g, 0, none⟩) n c) (bs.set j b) := by
  obtain ⟨h1, h2⟩ := h
  rcases h2 with ⟨e, _⟩ | ⟨g2, cap, cur, e, hb, hg, hn, hc, hs, ht⟩
  · cases e
  · injection e with e1 e2 e3
    injection e1 with e1
    injection e1 with e1 _
    subst e1 e3
    subst e2
    refine ⟨by rw [List.length_map, List.length_set]; omega, .inr ⟨g, c, cur.setIfInBounds j (B b), by rw [List.length_set], hb, heap_setCell_same hg _, by rw [List.length_set]; exact hn, hc, by simpa using hs, ?_⟩⟩
    rw [List.length_set, Array.toList_setIfInBounds, List.take_set, ht, List.map_set]
theorem Owns.ptr {w : World} {base : Nat} {v : Value} {bs : List UInt8} (h : Owns w base v bs) (h0 : 0 < bs.length) : ∃ g c, v = .slice (some ⟨g, 0, none⟩) bs.length c ∧ base ≤ g ∧ bs.length ≤ c ∧ c ≤ maxLen := by
  obtain ⟨h1, h2⟩ := h
  rcases h2 with ⟨e, hn⟩ | ⟨g2, cap, cur, e, hb, hg, hn, hc, hs, ht⟩
  · omega
  · exact ⟨g2, cap, e, hb, hn, hc⟩

set_option maxRecDepth 100000 in
set_option maxHeartbeats 8000000 in
theorem paddedMd5_any (dv : Value) (ds : List UInt8) (w : World) (h : Reads w dv ds) (hl : ds.length ≤ 100000) :
    Calls Try.prog 28 #[dv] w fun e w' => ∃ v, e = .returned v ∧ Owns w' w.heap.size v (Md.padded ds) ∧ Below w.heap.size w w' := by
  obtain ⟨a1, c1, rfl, hc1, hm1, _⟩ := id h
  obtain ⟨n, hn⟩ : ∃ n, n = ds.length := ⟨_, rfl⟩
  rw [← hn] at hc1 hl ⊢
  have H1 := Lib.hid h
  have HN := Lib.hid hn
  have q0 : (n : Int) ≤ 100000 := by omega
  clear h hn
  go_enter Try.func28, Try.ntmps28
  go_wp2_with fail
  refine (padded_any _ ds w (by have h := H1.out; rw [← HN.out] at h; exact h) (by rw [← HN.out]; exact hl)).mono ?_
  rintro e w1 ⟨v, tl, htl, rfl, ho, hb⟩
  obtain ⟨q, hq⟩ : ∃ q, q = n + 1 + Md.padz n := ⟨_, rfl⟩
  have hlen : (ds ++ (128 :: (List.replicate (Md.padz ds.length) 0 ++ tl))).length = q + 8 := by
    rw [← HN.out]
    simp [← HN.out]
    omega
  obtain ⟨g, c, rfl, hg, hc, hm⟩ := ho.ptr (by omega)
  rw [hlen] at ho hc ⊢
  obtain ⟨bs, hbs⟩ : ∃ bs, bs = ds ++ (128 :: (List.replicate (Md.padz ds.length) 0 ++ tl)) := ⟨_, rfl⟩
  rw [← hbs] at ho hlen
  have c0 := ho.cell q (by omega)
  have c1 := ho.cell (q + 1) (by omega)
  have c2 := ho.cell (q + 2) (by omega)
  have c3 := ho.cell (q + 3) (by omega)
  have c4 := ho.cell (q + 4) (by omega)
  have c5 := ho.cell (q + 5) (by omega)
  have c6 := ho.cell (q + 6) (by omega)
  have c7 := ho.cell (q + 7) (by omega)
  have z0 := ho.free q
  have z1 := ho.free (q + 1)
  have z2 := ho.free (q + 2)
  have z3 := ho.free (q + 3)
  have z4 := ho.free (q + 4)
  have z5 := ho.free (q + 5)
  have z6 := ho.free (q + 6)
  have z7 := ho.free (q + 7)
  have q1 : (q : Int) ≤ 200000 := by unfold Md.padz at hq; omega
  have HO := Lib.hid ho
  have HB := Lib.hid hb
  have HLEN := Lib.hid hlen
  have HBS := Lib.hid hbs
  have HQ := Lib.hid hq
  have HT := Lib.hid htl
  clear ho hb hlen hbs hq htl
  go_wp2
  go_rounds 9
  have e0 : (Value.int .u8 (8 * (n : Int) % 256)) = B (UInt8.ofNat (8 * n)) := by rw [B_ofNat]; congr 1
  have e1 : (Value.int .u8 (8 * (n : Int) / 256 % 256)) = B (UInt8.ofNat (8 * n / 256)) := by rw [B_ofNat]; congr 1
  have e2 : (Value.int .u8 (8 * (n : Int) / 65536)) = B (UInt8.ofNat (8 * n / 65536)) := by rw [B_ofNat]; congr 1; omega
  have e3 : (Value.int .u8 (8 * (n : Int) / 16777216)) = B (UInt8.ofNat (8 * n / 16777216)) := by rw [B_ofNat]; congr 1; omega
  have e4 : (Value.int .u8 (8 * (n : Int) / 4294967296)) = B (UInt8.ofNat (8 * n / 4294967296)) := by rw [B_ofNat]; congr 1; omega
  have e5 : (Value.int .u8 (8 * (n : Int) / 1099511627776)) = B (UInt8.ofNat (8 * n / 1099511627776)) := by rw [B_ofNat]; congr 1; omega
  have e6 : (Value.int .u8 (8 * (n : Int) / 281474976710656)) = B (UInt8.ofNat (8 * n / 281474976710656)) := by rw [B_ofNat]; congr 1; omega
  have e7 : (Value.int .u8 (8 * (n : Int) / 72057594037927936)) = B (UInt8.ofNat (8 * n / 72057594037927936)) := by rw [B_ofNat]; congr 1; omega
  rw [e0, e1, e2, e3, e4, e5, e6, e7]
  have hfin : setL q (Md.le64 (8 * n)) bs = Md.padded ds := by
    have hn := HN.out
    have hq : q = ds.length + 1 + Md.padz ds.length := by rw [← hn]; exact HQ.out
    have ht := HT.out
    have h1 := HLEN.out
    rw [setL_eq _ _ _ (by rw [Md.le64_length]; omega), Md.le64_length, List.drop_of_length_le (by omega), List.append_nil, HBS.out, ← List.cons_append, ← List.append_assoc, List.take_append_of_le_length (by simp; omega), List.take_of_length_le (by simp; omega)]
    unfold Md.padded Md.pad
    rw [hn]
    simp
  have hl8 : Md.le64 (8 * n) = [UInt8.ofNat (8 * n), UInt8.ofNat (8 * n / 256), UInt8.ofNat (8 * n / 65536), UInt8.ofNat (8 * n / 16777216), UInt8.ofNat (8 * n / 4294967296), UInt8.ofNat (8 * n / 1099511627776), UInt8.ofNat (8 * n / 281474976710656), UInt8.ofNat (8 * n / 72057594037927936)] := by
    simp [Md.le64, List.range, List.range.loop]
  rw [hl8] at hfin
  have hlen := HLEN.out
  have o0 := HO.out.set q (UInt8.ofNat (8 * n)) (by omega)
  have o1 := o0.set (q + 1) (UInt8.ofNat (8 * n / 256)) (by simp; omega)
  have o2 := o1.set (q + 2) (UInt8.ofNat (8 * n / 65536)) (by simp; omega)
  have o3 := o2.set (q + 3) (UInt8.ofNat (8 * n / 16777216)) (by simp; omega)
  have o4 := o3.set (q + 4) (UInt8.ofNat (8 * n / 4294967296)) (by simp; omega)
  have o5 := o4.set (q + 5) (UInt8.ofNat (8 * n / 1099511627776)) (by simp; omega)
  have o6 := o5.set (q + 6) (UInt8.ofNat (8 * n / 281474976710656)) (by simp; omega)
  have o7 := o6.set (q + 7) (UInt8.ofNat (8 * n / 72057594037927936)) (by simp; omega)
  have hfin2 : (((((((bs.set q (UInt8.ofNat (8 * n))).set (q + 1) (UInt8.ofNat (8 * n / 256))).set (q + 2) (UInt8.ofNat (8 * n / 65536))).set (q + 3) (UInt8.ofNat (8 * n / 16777216))).set (q + 4) (UInt8.ofNat (8 * n / 4294967296))).set (q + 5) (UInt8.ofNat (8 * n / 1099511627776))).set (q + 6) (UInt8.ofNat (8 * n / 281474976710656))).set (q + 7) (UInt8.ofNat (8 * n / 72057594037927936)) = Md.padded ds := hfin
  rw [hfin2] at o7
  go_ret
  refine ⟨_, rfl, o7, below_of_grown HB.out (grown_trans (grown_trans (grown_trans (grown_trans (grown_trans (grown_trans (grown_trans (grown_setCell _ _ _ _) (grown_setCell _ _ _ _)) (grown_setCell _ _ _ _)) (grown_setCell _ _ _ _)) (grown_setCell _ _ _ _)) (grown_setCell _ _ _ _)) (grown_setCell _ _ _ _)) (grown_setCell _ _ _ _)) hg⟩
end Go.Proofs.Ytkjapcmnopnblaa
