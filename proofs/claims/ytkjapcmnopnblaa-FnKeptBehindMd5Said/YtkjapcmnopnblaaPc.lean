/- Pieces of bytes: what a slice of slices holds; the laws' small functions. -/
import Derived.Test.YtkjapcmnopnblaaCv
namespace Go.Proofs.Ytkjapcmnopnblaa
open Go.RowKit
set_option linter.unusedVariables false

/-- v holds pieces of bytes. -/
def Pieces (w : World) (v : Value) (ps : List (List UInt8)) : Prop :=
  ∃ ad c, v = .slice ad ps.length c ∧ ps.length ≤ c ∧ c ≤ maxLen ∧ (0 < ps.length → ∃ b o, ad = some ⟨b, o, none⟩ ∧ ∀ j, j < ps.length → ∃ pv, w.cell? ⟨b, o + j, none⟩ = some pv ∧ Reads w pv (ps.getD j []))
theorem Pieces.below {w w' : World} {v : Value} {ps : List (List UInt8)} (h : Pieces w v ps) (hb : Below w.heap.size w w') : Pieces w' v ps := by
  obtain ⟨ad, c, e, h1, h2, h3⟩ := h
  refine ⟨ad, c, e, h1, h2, fun h0 => ?_⟩
  obtain ⟨b, o, e2, h4⟩ := h3 h0
  refine ⟨b, o, e2, fun j hj => ?_⟩
  obtain ⟨pv, h5, h6⟩ := h4 j hj
  have hlt : b < w.heap.size := World.block_lt_of_cell? w _ h5
  exact ⟨pv, (Below.cell (p := ⟨b, o + j, none⟩) hb hlt).trans h5, h6.below hb⟩
theorem Pieces.at {w : World} {ad : Option Addr} {n c : Nat} {ps : List (List UInt8)} (h : Pieces w (.slice ad n c) ps) (j : Nat) (hj : j < ps.length) :
    ∃ b o ad2 c2, ad = some ⟨b, o, none⟩ ∧ w.cell? ⟨b, o + j, none⟩ = some (.slice ad2 (ps.getD j []).length c2) ∧ Reads w (.slice ad2 (ps.getD j []).length c2) (ps.getD j []) ∧ (ps.getD j []).length ≤ 9223372036854775807 := by
  obtain ⟨ad', c', e, h1, h2, h3⟩ := h
  injection e with e1 e2 e3
  subst e1
  obtain ⟨b, o, e2, h4⟩ := h3 (by omega)
  obtain ⟨pv, h5, h6⟩ := h4 j hj
  obtain ⟨ad2, c2, rfl, h7⟩ := id h6
  have h8 := h6.length_le
  unfold maxLen at h8
  exact ⟨b, o, ad2, c2, e2, h5, h6, h8⟩

/-- The pieces up to j. -/
def upTo (ps : List (List UInt8)) (j : Nat) : List UInt8 := (ps.take j).flatten
theorem upTo_succ (ps : List (List UInt8)) (j : Nat) (hj : j < ps.length) : upTo ps (j + 1) = upTo ps j ++ ps.getD j [] := by
  unfold upTo
  rw [List.take_add_one, List.getElem?_eq_getElem hj, List.flatten_append, List.getD_eq_getElem?_getD, List.getElem?_eq_getElem hj]
  simp only [Option.toList_some, Option.getD_some, List.flatten_cons, List.flatten_nil, List.append_nil]
theorem upTo_all (ps : List (List UInt8)) (j : Nat) (hj : j = ps.length) : upTo ps j = ps.flatten := by
  unfold upTo
  rw [hj, List.take_of_length_le (Nat.le_refl _)]

def FitsPost (w : World) (e : Ending) (w' : World) : Prop := (∃ b, e = .returned (.bool b)) ∧ Dr w w'
/-- At most 100 pieces, of at most 5000 bytes in all. -/
def fewB (ps : List (List UInt8)) : Bool := decide (ps.length ≤ 100 ∧ ps.flatten.length ≤ 5000)
theorem fewB_true {ps : List (List UInt8)} (h : fewB ps = true) : ps.length ≤ 100 ∧ ps.flatten.length ≤ 5000 := of_decide_eq_true h
def FewPost (ps : List (List UInt8)) (w : World) (e : Ending) (w' : World) : Prop := e = .returned (.bool (fewB ps)) ∧ Dr w w'
theorem upTo_le (ps : List (List UInt8)) (j : Nat) : (upTo ps j).length ≤ ps.flatten.length := by
  unfold upTo
  conv => rhs; rw [← List.take_append_drop j ps, List.flatten_append, List.length_append]
  omega
set_option maxRecDepth 100000 in
set_option maxHeartbeats 4000000 in
theorem fits_any (v : Value) (ps : List (List UInt8)) (w : World) (h : Pieces w v ps) :
    Calls Try.prog 15 #[v] w (FitsPost w) := by
  obtain ⟨a1, c1, rfl, hc1, hm1, _⟩ := id h
  obtain ⟨n, hn⟩ : ∃ n, n = ps.length := ⟨_, rfl⟩
  rw [← hn] at hc1 ⊢
  have H1 : Hid (Pieces w (.slice a1 n c1) ps) := Lib.hid (by have h2 := h; rw [← hn] at h2; exact h2)
  have HN := Lib.hid hn
  clear h hn
  by_cases hbig : 2147483647 < n
  · have q1 : (2147483647 : Int) < (n : Int) := by omega
    go_enter Try.func15, Try.ntmps15
    go_wp2
    go_ret
    exact ⟨⟨_, rfl⟩, Dr.refl _⟩
  have q1 : ¬ (2147483647 : Int) < (n : Int) := by omega
  go_enter Try.func15, Try.ntmps15
  go_wp2_with fail
  go_loopw [4, 10] (fun _ i wr => ∃ (j : Nat), j ≤ n ∧ i = .int .i64 (j : Int) ∧ Hid (Dr w wr))
    (fun _ i _ => n - (intOf i).toNat)
  case atStart => exact ⟨0, Nat.zero_le _, rfl, Dr.refl _⟩
  case round =>
    obtain ⟨j, hj, rfl, hd⟩ := hrel
    by_cases hlt : j < n
    · have q : (j : Int) < (n : Int) := by omega
      obtain ⟨b, o, ad2, c2, rfl, L0, _, hle⟩ := H1.out.at j (by rw [← HN.out]; exact hlt)
      have L := (hd.out.cell ⟨b, o + j, none⟩).trans L0
      obtain ⟨k, hk⟩ : ∃ k, k = (ps.getD j []).length := ⟨_, rfl⟩
      rw [← hk] at L hle
      have q2 : (j : Int) < 9223372036854775807 := by omega
      clear L0 hk
      by_cases hk : 2147483647 < k
      · have q3 : (2147483647 : Int) < (k : Int) := by omega
        go_wp2_with fail
        go_ret
        exact ⟨⟨_, rfl⟩, hd.out⟩
      · have q3 : ¬ (2147483647 : Int) < (k : Int) := by omega
        go_wp2
        go_roundw
        case rel => exact ⟨j + 1, hlt, by simp, hd⟩
        case measure => simp [intOf]; omega
    · obtain rfl : j = n := by omega
      have q : ¬ (j : Int) < (j : Int) := by omega
      clear hlt
      go_wp2_with fail
      go_ret
      exact ⟨⟨_, rfl⟩, hd.out⟩

set_option maxRecDepth 100000 in
set_option maxHeartbeats 4000000 in
theorem few_any (v : Value) (ps : List (List UInt8)) (w : World) (h : Pieces w v ps) :
    Calls Try.prog 16 #[v] w (FewPost ps w) := by
  obtain ⟨a1, c1, rfl, hc1, hm1, _⟩ := id h
  obtain ⟨n, hn⟩ : ∃ n, n = ps.length := ⟨_, rfl⟩
  rw [← hn] at hc1 ⊢
  have H1 : Hid (Pieces w (.slice a1 n c1) ps) := Lib.hid (by have h2 := h; rw [← hn] at h2; exact h2)
  have HN := Lib.hid hn
  clear h hn
  by_cases hbig : 100 < n
  · have q1 : (100 : Int) < (n : Int) := by omega
    go_enter Try.func16, Try.ntmps16
    go_wp2
    go_ret
    refine ⟨?_, Dr.refl _⟩
    have h : fewB ps = false := decide_eq_false (by have := HN.out; omega)
    rw [h]
    rfl
  have q1 : ¬ (100 : Int) < (n : Int) := by omega
  go_enter Try.func16, Try.ntmps16
  go_wp2_with fail
  go_loopw [3, 5, 11] (fun s _ i wr => ∃ (j m : Nat), j ≤ n ∧ s = .int .i64 (m : Int) ∧ i = .int .i64 (j : Int) ∧ m ≤ 5000 ∧ Hid (m = (upTo ps j).length) ∧ Hid (Dr w wr))
    (fun _ _ i _ => n - (intOf i).toNat)
  case atStart => exact ⟨0, 0, Nat.zero_le _, rfl, rfl, Nat.zero_le _, rfl, Dr.refl _⟩
  case round =>
    obtain ⟨j, m, hj, rfl, rfl, hm5, hm, hd⟩ := hrel
    by_cases hlt : j < n
    · have q : (j : Int) < (n : Int) := by omega
      obtain ⟨b, o, ad2, c2, rfl, L0, _, hle⟩ := H1.out.at j (by rw [← HN.out]; exact hlt)
      have L := (hd.out.cell ⟨b, o + j, none⟩).trans L0
      obtain ⟨k, hk⟩ : ∃ k, k = (ps.getD j []).length := ⟨_, rfl⟩
      rw [← hk] at L hle
      have q2 : (j : Int) < 9223372036854775807 := by omega
      have HK := Lib.hid hk
      clear L0 hk
      by_cases hk : 5000 < k + m
      · have q3 : (5000 : Int) - (m : Int) < (k : Int) := by omega
        go_wp2_with fail
        go_ret
        refine ⟨?_, hd.out⟩
        have h : fewB ps = false := decide_eq_false (by
          have h1 := upTo_le ps (j + 1)
          rw [upTo_succ ps j (by rw [← HN.out]; exact hlt), List.length_append, ← hm.out, ← HK.out] at h1
          omega)
        rw [h]
        rfl
      · have q3 : ¬ (5000 : Int) - (m : Int) < (k : Int) := by omega
        have q4 : (m : Int) + (k : Int) ≤ 5000 := by omega
        have hm2 : m + k = (upTo ps (j + 1)).length := by rw [upTo_succ ps j (by rw [← HN.out]; exact hlt), List.length_append, hm.out, HK.out]
        have HM2 := Lib.hid hm2
        clear hm2
        go_wp2
        go_roundw
        case rel => exact ⟨j + 1, m + k, hlt, by simp, by simp, by omega, HM2, hd⟩
        case measure => simp [intOf]; omega
    · obtain rfl : j = n := by omega
      have q : ¬ (j : Int) < (j : Int) := by omega
      clear hlt
      go_wp2_with fail
      go_ret
      refine ⟨?_, hd.out⟩
      have h : fewB ps = true := decide_eq_true ⟨by rw [← HN.out]; omega, by rw [← upTo_all ps j HN.out, ← hm.out]; exact hm5⟩
      rw [h]
      rfl

set_option maxRecDepth 100000 in
set_option maxHeartbeats 4000000 in
theorem joined_any (v : Value) (ps : List (List UInt8)) (w : World) (h : Pieces w v ps) (hl : ps.flatten.length ≤ 5000) (hl2 : ps.length ≤ 100) :
    Calls Try.prog 20 #[v] w fun e w' => ∃ v', e = .returned v' ∧ Owns w' w.heap.size v' ps.flatten ∧ Below w.heap.size w w' := by
  obtain ⟨a1, c1, rfl, hc1, hm1, _⟩ := id h
  obtain ⟨n, hn⟩ : ∃ n, n = ps.length := ⟨_, rfl⟩
  rw [← hn] at hc1 hl2 ⊢
  have H1 : Hid (Pieces w (.slice a1 n c1) ps) := Lib.hid (by have h2 := h; rw [← hn] at h2; exact h2)
  have HN := Lib.hid hn
  have HL := Lib.hid hl
  clear h hn hl
  go_enter Try.func20, Try.ntmps20
  go_wp2_with fail
  have hE : Below w.heap.size w (w.alloc (.cells #[] 5)) := (Below.refl _ _).alloc (Nat.le_refl _) _
  have oE := Owns.empty w
  go_loopw [3, 9] (fun x i wr => ∃ (j : Nat), j ≤ n ∧ i = .int .i64 (j : Int) ∧ Hid (Owns wr w.heap.size x (upTo ps j)) ∧ Hid (Below w.heap.size w wr))
    (fun _ i _ => n - (intOf i).toNat)
  case atStart => exact ⟨0, Nat.zero_le _, rfl, oE, hE⟩
  case round =>
    obtain ⟨j, hj, rfl, ho, hb⟩ := hrel
    by_cases hlt : j < n
    · have q : (j : Int) < (n : Int) := by omega
      obtain ⟨b, o, ad2, c2, rfl, L, R0, hle⟩ := (H1.out.below hb.out).at j (by rw [← HN.out]; exact hlt)
      obtain ⟨pv, hpv⟩ : ∃ pv, pv = Value.slice ad2 (ps.getD j []).length c2 := ⟨_, rfl⟩
      rw [← hpv] at L R0
      have q2 : (j : Int) < 9223372036854775807 := by omega
      have hup := upTo_succ ps j (by rw [← HN.out]; exact hlt)
      have hle2 : (upTo ps j).length + (ps.getD j []).length ≤ 5000 := by
        rw [← List.length_append, ← hup]
        refine Nat.le_trans ?_ HL.out
        unfold upTo
        rw [← List.take_append_drop (j + 1) ps, List.flatten_append, List.length_append]
        rw [List.take_append_drop]
        omega
      have HUP := Lib.hid hup
      have HLE := Lib.hid hle2
      have R := Lib.hid R0
      clear hpv hle hup hle2 R0
      go_wp2_with (refine stand_app ?_)
      refine go_on (s_app (bs := upTo ps j) (cs := ps.getD j []) rfl rfl ho.out R.out (by have := HLE.out; omega) hb.out.size (fun v1 w1 o1 g1 e1 => ?_))
      have b1 : Below w.heap.size w w1 := Below.grown hb.out g1 hb.out.size (fun k hk => (ho.out.fresh k hk).1)
      rw [← HUP.out] at o1
      have O1 := Lib.hid o1
      have B1 := Lib.hid b1
      clear o1 g1 e1 b1
      go_wp2
      go_roundw
      case rel => exact ⟨j + 1, hlt, by simp, O1, B1⟩
      case measure => simp [intOf]; omega
    · obtain rfl : j = n := by omega
      have q : ¬ (j : Int) < (j : Int) := by omega
      clear hlt
      go_wp2_with fail
      go_ret
      have h := ho.out
      rw [upTo_all ps j HN.out] at h
      exact ⟨_, rfl, h, hb.out⟩
end Go.Proofs.Ytkjapcmnopnblaa
