/- What an argument of pieces of bytes that comes in tells the walks. -/
import Derived.Test.YtkjapcmnopnblaaFr
import Derived.Test.YtkjapcmnopnblaaPc
import Derived.Deep.Matrix
namespace Go.Proofs.Ytkjapcmnopnblaa
open Go.ChangeShapes Go.WideShapes Go.ChangeAt Go.RowKit
set_option linter.unusedVariables false

theorem rows_of {H : Type} {enc : TypeId × Value → H} {W : World} {a : Option Addr} {len cap fuel : Nat} {x : DataW H × List MemPlace}
    (h : DataW.trod enc Try.prog W 0 (fun _ => true) true fuel 22 (Value.cells (.slice a len cap)).toList = some x) : ∃ ps, Pieces W (.slice a len cap) ps := by
  rcases Go.Deep.open_int_rows Try.underlying22 Try.underlying24 Try.underlying5 (by kernel_rfl) (by kernel_rfl) h with ⟨hcs, _⟩ | ⟨a', l, c, A, L, C, Z, hcs, _, hl, hm, _, hrow⟩
  · simp [Value.cells] at hcs
    obtain ⟨rfl, rfl, rfl⟩ := hcs
    exact ⟨[], none, 0, rfl, Nat.le_refl _, Nat.zero_le _, fun h => absurd h (Nat.lt_irrefl _)⟩
  · simp [Value.cells] at hcs
    obtain ⟨rfl, rfl, rfl⟩ := hcs
    have hex : ∀ r, ∃ bs : List UInt8, r < cap → bs.length = L r ∧ Reads W (.slice (A r) (L r) (C r)) bs := by
      intro r
      by_cases hr : r < cap
      · obtain ⟨h1, h2, h3, h4, h5, h6, h7⟩ := hrow r hr
        have hI : IsRow .u8 W (A r) (L r) (C r) (Z r) := by
          cases hA : A r with
          | none =>
            have h0 := h6 hA
            exact .inl ⟨rfl, by omega, h0, List.eq_nil_of_length_eq_zero (by omega)⟩
          | some x =>
            exact .inr ⟨x, rfl, h2, h3, h4, fun i hi => (h7 x hA).2 i (by omega), h5⟩
        obtain ⟨bs, hb1, hb2⟩ := hI.reads
        exact ⟨bs, fun _ => ⟨hb1, hb2⟩⟩
      · exact ⟨[], fun h => absurd h hr⟩
    obtain ⟨f, hf⟩ := Classical.axiomOfChoice hex
    refine ⟨(List.range len).map f, some a', cap, by simp, by simpa using hl, hm, fun h0 => ?_⟩
    simp only [List.length_map, List.length_range] at h0 ⊢
    obtain ⟨b, o, rfl⟩ := spot_of (hrow 0 (by omega)).1
    refine ⟨b, o, rfl, fun j hj => ⟨.slice (A j) (L j) (C j), ?_, ?_⟩⟩
    · have := (hrow j (by omega)).1
      rw [add_at] at this
      exact this
    · have e : ((List.range len).map f).getD j [] = f j := by simp [List.getD_eq_getElem?_getD, hj]
      rw [e]
      exact (hf j (by omega)).2
end Go.Proofs.Ytkjapcmnopnblaa
