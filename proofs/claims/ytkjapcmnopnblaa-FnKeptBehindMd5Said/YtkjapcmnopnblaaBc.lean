/- The contract of md5.blockGeneric and of md5.block: the digest takes all whole blocks of the bytes up; nothing else turns. -/
import Derived.Test.YtkjapcmnopnblaaBm
namespace Go.Proofs.Ytkjapcmnopnblaa
open Go.RowKit
set_option linter.unusedVariables false

theorem reg1_any {g : Nat} {pv : Value} {s : Md.St} {w : World} {Q : Exit → Act → World → Prop} {a : Act}
    (hs : a.tmps.size = 1058) (hd : a.defers = []) (h0 : a.eval (.tmp 0) = .pointer (some ⟨g, 0, none⟩)) (hp : a.eval (.tmp 1) = pv)
    (ra : a.eval (.tmp 4) = U s.a) (rb : a.eval (.tmp 5) = U s.b) (rc : a.eval (.tmp 6) = U s.c) (rd : a.eval (.tmp 7) = U s.d)
    (H : ∀ a', Bd0 g pv 0 s a' → Q .normal a' w) : (seqL (seqL (seqR code51))).wp Try.prog Q a w := by
  conv => arg 2; whnf
  refine wp_region_lit ?_
  refine s_as (v := .int .i64 0) rfl ?_
  refine wpList_nil (H _ ⟨?_, ?_, ?_, ?_, ?_, ?_, ?_, ?_, ?_⟩)
  · simp only [size_put]; exact hs
  · simp only [defers_put]; exact hd
  all_goals simp (disch := first | omega | (simp only [size_put]; omega)) only [eval_put_same, eval_put_other, h0, hp, ra, rb, rc, rd]

theorem eval_arg0 (x y : Value) (r : Array Value) : Act.eval ⟨#[x, y] ++ r, []⟩ (.tmp 0) = x := by
  obtain ⟨l⟩ := r
  simp [Act.eval]
theorem eval_arg1 (x y : Value) (r : Array Value) : Act.eval ⟨#[x, y] ++ r, []⟩ (.tmp 1) = y := by
  obtain ⟨l⟩ := r
  simp [Act.eval]

theorem block_any (g : Nat) (s : Md.St) (xs : List UInt8) (nx ln : Nat) (pv : Value) (bs : List UInt8) (w : World) (hD : Dig w g s xs nx ln) (hR : Reads w pv bs) :
    Calls Try.prog 51 #[.pointer (some ⟨g, 0, none⟩), pv] w fun e w' => e = .returned (.tuple #[]) ∧ Dig w' g (Md.blks s bs) xs nx ln ∧ w.grownBy w' (some g) := by
  obtain ⟨ad, c, rfl, hc, hm, hcell⟩ := hR
  refine calls_of_wp (c := code51) Try.func51 (by kernel_rfl) ?_
  rw [code51_eq]
  refine wp_seq (reg0_any (pv := .slice ad bs.length c) (s := s) (by rw [Try.ntmps51]; simp) rfl ?_ ?_ hD.a hD.b hD.c hD.d (fun a1 w1 hd1 hs1 hdf1 h0 hp ra rb rc rd => ?_))
  · exact eval_arg0 _ _ _
  · exact eval_arg1 _ _ _
  refine (show Code.wp Try.prog _ _ _ _ from ?_)
  refine wp_seq (wp_seq (reg1_any hs1 hdf1 h0 hp ra rb rc rd (fun a2 h2 => ?_)))
  refine (show Code.wp Try.prog _ _ _ _ from ?_)
  refine wp_block (loop_any (pbs := bs) h2 (by omega) hc rfl (fun h0 => ?_) (fun a3 w3 i3 hd3 h3 => ?_))
  · obtain ⟨b, o, e, hcl⟩ := hcell h0
    exact ⟨b, o, e, fun j hj => (hd1.cell _).trans (hcl j hj)⟩
  · have hdr := hd1.trans hd3
    have hD3 := hD.dr hdr
    refine (show Code.wp Try.prog _ _ _ _ from ?_)
    refine reg91_any h3 hD3.heap (by have := hD.size; simp; omega) (fun c a1 a2 w' e hp => ?_) (fun a4 h4 => ?_)
    · exact ⟨e ▸ hp.1, hp.2⟩
    · refine ⟨h4, _, results_none rfl _ _ _, rfl, ⟨?_, hD.len⟩, ?_⟩
      · have e0 : w3.drew.heap[g]? = some (.cells (digC s xs nx ln).toArray 78 (0, 0)) := hD3.heap
        rw [heap_setCell_same (heap_setCell_same (heap_setCell_same (heap_setCell_same e0 _) _) _) _]
        simp [digC]
      · refine grown_trans (grown_dr hdr) ?_
        refine grown_trans (b := w3.drew) (grown_dr ⟨1, rfl⟩) ?_
        exact grown_trans (grown_trans (grown_trans (grown_setCell _ _ _ _) (grown_setCell _ _ _ _)) (grown_setCell _ _ _ _)) (grown_setCell _ _ _ _)
#print axioms block_any
end Go.Proofs.Ytkjapcmnopnblaa
