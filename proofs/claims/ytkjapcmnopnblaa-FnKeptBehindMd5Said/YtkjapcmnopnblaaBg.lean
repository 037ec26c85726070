/- md5.blockGeneric: it takes all whole blocks of the bytes up into the digest's four words, and leaves all else alone. -/
import Derived.Test.YtkjapcmnopnblaaBk
namespace Go.Proofs.Ytkjapcmnopnblaa
open Go.RowKit
set_option linter.unusedVariables false
set_option linter.unusedSimpArgs false

theorem wrap_i64_in (x : Int) (h1 : -9223372036854775808 ≤ x) (h2 : x ≤ 9223372036854775807) : IntKind.i64.wrap x = x := by
  rw [IntKind.wrap_i64]; omega

section
variable {w w0 : World} {Q : Exit → Act → World → Prop} {a : Act}
variable {g : Nat} {ad : Option Addr} {s : Md.St} {n c l : Nat}
/-- The head of the loop: is there a whole block left? -/
theorem head_any (hI : Bd0 g (.slice ad n c) (l : Int) s a) (hn : n ≤ maxLen)
    (H1 : l + 64 ≤ n → ∀ a', Bd0 g (.slice ad n c) (l : Int) s a' → Q .normal a' w)
    (H2 : ¬ l + 64 ≤ n → ∀ a', Bd0 g (.slice ad n c) (l : Int) s a' → Q (.exit 0) a' w) : head51.wp Try.prog Q a w := by
  have hs := hI.size
  unfold maxLen at hn
  conv => arg 2; whnf
  refine wp_seq (wp_region_lit ?_)
  refine s_mv hI.i ?_
  refine s_mv ((eval_put_other _ _ _ _ (by omega)).trans hI.p) ?_
  refine s_len24 (eval_put_same _ _ _ (by simp only [size_put]; omega)) ?_
  refine s_sub64 (eval_put_same _ _ _ (by simp only [size_put]; omega)) rfl (wrap_i64_in _ (by omega) (by omega)) ?_
  refine s_leq64 (p := (l : Int)) (by simp (disch := first | omega | (simp only [size_put]; omega)) only [eval_put_same, eval_put_other]) (eval_put_same _ _ _ (by simp only [size_put]; omega)) rfl ?_
  refine wpList_nil (show Code.wp Try.prog _ _ _ _ from ?_)
  have hb : ∀ a1 : Act, a1.tmps.size = 1058 → a1.defers = a.defers → (∀ t : Nat, t < 30 → a1.eval (.tmp t) = a.eval (.tmp t)) → Bd0 g (.slice ad n c) (l : Int) s a1 := fun a1 e1 e2 e3 =>
    ⟨e1, e2.trans hI.defers, (e3 0 (by omega)).trans hI.d, (e3 1 (by omega)).trans hI.p, (e3 8 (by omega)).trans hI.i, (e3 4 (by omega)).trans hI.ra, (e3 5 (by omega)).trans hI.rb, (e3 6 (by omega)).trans hI.rc, (e3 7 (by omega)).trans hI.rd⟩
  refine wp_cond_split (eval_put_same _ _ _ (by simp only [size_put]; omega)) (fun h => ?_) (fun h => ?_)
  · refine wp_skip (H1 (by simp only [decide_eq_true_eq] at h; omega) _ (hb _ ?_ ?_ (fun t ht => ?_)))
    · simp only [size_put]; exact hs
    · simp only [defers_put]
    · simp (disch := first | omega | (simp only [size_put]; omega)) only [eval_put_same, eval_put_other]
  · refine wp_exit (H2 (by simp only [decide_eq_false_iff_not] at h; omega) _ (hb _ ?_ ?_ (fun t ht => ?_)))
    · simp only [size_put]; exact hs
    · simp only [defers_put]
    · simp (disch := first | omega | (simp only [size_put]; omega)) only [eval_put_same, eval_put_other]

theorem post_any (hI : Bd0 g (.slice ad n c) (l : Int) s a) (hl : l + 64 ≤ maxLen)
    (H : ∀ a', Bd0 g (.slice ad n c) ((l + 64 : Nat) : Int) s a' → Q .normal a' w) : post51.wp Try.prog Q a w := by
  have hs := hI.size
  unfold maxLen at hl
  conv => arg 2; whnf
  refine wp_region_lit ?_
  refine s_mv hI.i ?_
  refine s_add64 (r := ((l + 64 : Nat) : Int)) (eval_put_same _ _ _ (by omega)) rfl (by rw [wrap_i64_in _ (by omega) (by omega)]; omega) ?_
  refine s_as (eval_put_same _ _ _ (by simp only [size_put]; omega)) ?_
  refine wpList_nil (H _ ⟨?_, ?_, ?_, ?_, ?_, ?_, ?_, ?_, ?_⟩)
  · simp only [size_put]; exact hs
  · simp only [defers_put]; exact hI.defers
  all_goals simp (disch := first | omega | (simp only [size_put]; omega)) only [eval_put_same, eval_put_other, hI.d, hI.p, hI.ra, hI.rb, hI.rc, hI.rd]

/-- The loop: all whole blocks. -/
theorem loop_any {pbs : List UInt8} (hI : Bd0 g (.slice ad n c) 0 s a) (hn : n ≤ maxLen) (hc : n ≤ c) (hlen : pbs.length = n)
    (hcell : 0 < n → ∃ b o, ad = some ⟨b, o, none⟩ ∧ ∀ j, j < n → w.cell? ⟨b, o + j, none⟩ = some (B (pbs.getD j 0)))
    (H : ∀ a' w' i', Dr w w' → Bd0 g (.slice ad n c) i' (Md.blks s pbs) a' → Q (.exit 0) a' w') : (Code.loop loop51).wp Try.prog Q a w := by
  refine wp_loop (fun a' w' => ∃ k : Nat, 64 * k ≤ n ∧ Dr w w' ∧ Bd0 g (.slice ad n c) ((64 * k : Nat) : Int) (Md.blksN k s pbs) a')
    (fun a' _ => n - (intOf (a'.eval (.tmp 8))).toNat) ⟨0, by omega, Dr.refl w, by simpa [Md.blksN] using hI⟩ ?_
  rintro a1 w1 ⟨k, hk, hd, hI1⟩
  have hlp : loop51 = .seq head51 (.seq (.block 1 work51) post51) := by kernel_rfl
  rw [hlp]
  refine wp_seq (head_any hI1 hn (fun h a2 h2 => ?_) (fun h a2 h2 => ?_))
  · obtain ⟨b, o, rfl, hcl⟩ := hcell (by omega)
    refine (show Code.wp Try.prog _ _ _ _ from ?_)
    refine wp_seq (wp_block ?_)
    refine work_any (p := (pbs.drop (64 * k)).take 64) (w0 := w) h2 h hc hd (fun j hj => ?_) (fun a3 w3 hd3 h3 => ?_)
    · rw [Nat.add_assoc, hcl _ (by omega)]
      congr 2
      rw [List.getD_eq_getElem?_getD, List.getD_eq_getElem?_getD, List.getElem?_take, if_pos hj, List.getElem?_drop]
    · refine (show Code.wp Try.prog _ _ _ _ from ?_)
      refine post_any h3 (by omega) (fun a4 h4 => ?_)
      refine ⟨⟨k + 1, by omega, hd3, ?_⟩, ?_⟩
      · have e : Md.blksN (k + 1) s pbs = Md.blk (Md.blksN k s pbs) ((pbs.drop (64 * k)).take 64) := by
          rw [Md.blksN_add k 1]; rfl
        rw [e, show 64 * (k + 1) = 64 * k + 64 by omega]
        exact h4
      · have e4 := h4.i
        have e1 := hI1.i
        simp only [e4, e1, intOf, Int.toNat_natCast]
        omega
  · refine H a2 w1 ((64 * k : Nat) : Int) hd ?_
    have e : Md.blks s pbs = Md.blksN k s pbs := by
      unfold Md.blks
      rw [show pbs.length / 64 = k by omega]
    rw [e]
    exact h2
end
end Go.Proofs.Ytkjapcmnopnblaa
