/- What an argument that comes in tells the walks: bytes, words. -/
import Derived.Test.YtkjapcmnopnblaaAp
import Derived.WalkKit
import Derived.ProofKit
import Derived.OpenShut
import Derived.ShutString
import Derived.ChangeOld
import Derived.Below
namespace Go.Proofs.Ytkjapcmnopnblaa
open Go.ChangeShapes Go.WideShapes Go.ChangeAt Go.RowKit
set_option linter.unusedVariables false

theorem own : ownKnob Try.prog.godebug = none := by kernel_rfl
theorem laidOut : laidOutB Try.prog = true := by kernel_rfl

/-- A slice of whole numbers that came in. -/
def IsRow (k : IntKind) (w : World) (a : Option Addr) (len cap : Nat) (zs : List Int) : Prop :=
  (a = none ∧ len = 0 ∧ cap = 0 ∧ zs = []) ∨
  ∃ x, a = some x ∧ len ≤ cap ∧ cap ≤ maxLen ∧ zs.length = cap ∧ (∀ i, i < zs.length → w.cell? (x.add i) = some (.int k (zs.getD i 0))) ∧ ∀ n ∈ zs, (Lit.int k n).wf = true

theorem spot_of {w : World} {x : Addr} {v : Value} (h : w.cell? (x.add 0) = some v) : ∃ b o, x = ⟨b, o, none⟩ := by
  obtain ⟨b, o, spot⟩ := x
  have hs : spot = none := by simpa [Addr.add] using World.cell?_spot h
  exact ⟨b, o, by rw [hs]⟩

theorem wf_u8 {n : Int} (h : (Lit.int .u8 n).wf = true) : B (UInt8.ofNat n.toNat) = .int .u8 n := by
  have : 0 ≤ n ∧ n ≤ 255 := by
    have h' : IntKind.u8.min ≤ n ∧ n ≤ IntKind.u8.max := by simpa [Lit.wf] using h
    exact h'
  unfold B
  congr 1
  rw [UInt8.toNat_ofNat']
  omega
theorem wf_u32 {n : Int} (h : (Lit.int .u32 n).wf = true) : U (BitVec.ofNat 32 n.toNat) = .int .u32 n := by
  have : 0 ≤ n ∧ n ≤ 4294967295 := by
    have h' : IntKind.u32.min ≤ n ∧ n ≤ IntKind.u32.max := by simpa [Lit.wf] using h
    exact h'
  unfold U
  congr 1
  rw [BitVec.toNat_ofNat]
  omega

theorem IsRow.reads {w : World} {a : Option Addr} {len cap : Nat} {zs : List Int} (h : IsRow .u8 w a len cap zs) :
    ∃ bs : List UInt8, bs.length = len ∧ Reads w (.slice a len cap) bs := by
  rcases h with ⟨rfl, rfl, rfl, rfl⟩ | ⟨x, rfl, h1, h2, h3, h4, h5⟩
  · exact ⟨[], rfl, Reads.nil w⟩
  · refine ⟨(zs.take len).map fun n => UInt8.ofNat n.toNat, by rw [List.length_map, List.length_take]; omega, some x, cap, by rw [List.length_map, List.length_take, Nat.min_eq_left (by omega)], by rw [List.length_map, List.length_take]; omega, h2, fun h0 => ?_⟩
    rw [List.length_map, List.length_take] at h0
    obtain ⟨b, o, rfl⟩ := spot_of (h4 0 (by omega))
    refine ⟨b, o, rfl, fun j hj => ?_⟩
    rw [List.length_map, List.length_take] at hj
    have h6 := h4 j (by omega)
    have e : zs.getD j 0 = zs[j]'(by omega) := by simp [List.getD_eq_getElem?_getD, List.getElem?_eq_getElem (show j < zs.length by omega)]
    rw [e] at h6
    have h7 := wf_u8 (h5 (zs[j]'(by omega)) (List.getElem_mem _))
    have e2 : ((zs.take len).map fun n => UInt8.ofNat n.toNat).getD j 0 = UInt8.ofNat (zs[j]'(by omega)).toNat := by
      simp [List.getD_eq_getElem?_getD, show j < len by omega, List.getElem?_eq_getElem (show j < zs.length by omega)]
    rw [e2, h7, ← h6, add_at]

theorem IsRow.words {w : World} {a : Option Addr} {len cap : Nat} {zs : List Int} (h : IsRow .u32 w a len cap zs) :
    ∃ ws : List Md.W, ws.length = len ∧ Words w (.slice a len cap) ws := by
  rcases h with ⟨rfl, rfl, rfl, rfl⟩ | ⟨x, rfl, h1, h2, h3, h4, h5⟩
  · exact ⟨[], rfl, none, 0, rfl, Nat.le_refl _, Nat.zero_le _, fun h => absurd h (Nat.lt_irrefl _)⟩
  · refine ⟨(zs.take len).map fun n => BitVec.ofNat 32 n.toNat, by rw [List.length_map, List.length_take]; omega, some x, cap, by rw [List.length_map, List.length_take, Nat.min_eq_left (by omega)], by rw [List.length_map, List.length_take]; omega, h2, fun h0 => ?_⟩
    rw [List.length_map, List.length_take] at h0
    obtain ⟨b, o, rfl⟩ := spot_of (h4 0 (by omega))
    refine ⟨b, o, rfl, fun j hj => ?_⟩
    rw [List.length_map, List.length_take] at hj
    have h6 := h4 j (by omega)
    have e : zs.getD j 0 = zs[j]'(by omega) := by simp [List.getD_eq_getElem?_getD, List.getElem?_eq_getElem (show j < zs.length by omega)]
    rw [e] at h6
    have h7 := wf_u32 (h5 (zs[j]'(by omega)) (List.getElem_mem _))
    have e2 : ((zs.take len).map fun n => BitVec.ofNat 32 n.toNat).getD j 0 = BitVec.ofNat 32 (zs[j]'(by omega)).toNat := by
      simp [List.getD_eq_getElem?_getD, show j < len by omega, List.getElem?_eq_getElem (show j < zs.length by omega)]
    rw [e2, h7, ← h6, add_at]
end Go.Proofs.Ytkjapcmnopnblaa
