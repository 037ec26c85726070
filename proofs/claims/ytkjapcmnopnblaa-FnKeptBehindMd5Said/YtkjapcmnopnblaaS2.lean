/- The reference's 64 numbers; two lists of words that are the same. -/
import Derived.Test.YtkjapcmnopnblaaS1
namespace Go.Proofs.Ytkjapcmnopnblaa
open Go.RowKit

def sineC : List Value := Md.kTab.map fun (n : Nat) => Value.int .u32 (n : Int)
set_option maxHeartbeats 400000 in
set_option maxRecDepth 10000 in
theorem sines_any (w : World) :
    Calls Try.prog 40 #[] w fun e w' => e = .returned (.slice (some ⟨w.heap.size, 0, none⟩) 64 64) ∧ w' = w.alloc (.cells sineC.toArray 58) := by
  go_enter Try.func40, Try.ntmps40
  go_wp2
  go_ret
  exact ⟨rfl, rfl⟩
theorem sineC_at (t : Nat) (ht : t < 64) : sineC.toArray[t]? = some (U (Md.kk t)) := by
  have h : ∀ j : Fin 64, Md.kTab.getD j.val 0 < 4294967296 := by decide
  have hj := h ⟨t, ht⟩
  have hl : Md.kTab.length = 64 := rfl
  obtain ⟨n, hn⟩ : ∃ n, Md.kTab[t]? = some n := ⟨_, List.getElem?_eq_getElem (by rw [hl]; exact ht)⟩
  have hg : Md.kTab.getD t 0 = n := by rw [List.getD_eq_getElem?_getD, hn]; rfl
  simp only [hg] at hj
  simp only [sineC, List.getElem?_toArray, List.getElem?_map, hn, Option.map_some]
  unfold Md.kk
  rw [hg]
  show some (Value.int .u32 (n : Int)) = some (Value.int .u32 ((BitVec.ofNat 32 n).toNat : Int))
  rw [BitVec.toNat_ofNat, Nat.mod_eq_of_lt hj]

set_option maxHeartbeats 400000 in
theorem same32_any (v1 v2 : Value) (ws : List Md.W) (w : World) (h1 : Words w v1 ws) (h2 : Words w v2 ws) :
    Calls Try.prog 23 #[v1, v2] w fun e w' => e = .returned (.bool true) ∧ Dr w w' := by
  have hm := h1.length_le
  unfold maxLen at hm
  obtain ⟨a1, c1, rfl, _, _, g1⟩ := h1
  obtain ⟨a2, c2, rfl, _, _, g2⟩ := h2
  have hne : ((ws.length : Int) != (ws.length : Int)) = false := by simp
  generalize ws.length = n at *
  go_enter Try.func23, Try.ntmps23
  go_wp2
  go_loopw [13] (fun i wr => ∃ k : Nat, k ≤ n ∧ i = .int .i64 k ∧ Dr w wr) (fun i _ => n - (intOf i).toNat)
  case atStart => exact ⟨0, Nat.zero_le _, rfl, Dr.refl w⟩
  case round =>
    obtain ⟨k, hk, rfl, hd⟩ := hrel
    by_cases hlt : k < n
    · obtain ⟨b1, o1, rfl, k1⟩ := g1 (by omega)
      obtain ⟨b2, o2, rfl, k2⟩ := g2 (by omega)
      have q1 := (hd.cell _).trans (k1 k hlt)
      have q2 := (hd.cell _).trans (k2 k hlt)
      have hki : (k : Int) < (n : Int) := by omega
      have hk0 : (0 : Int) ≤ (k : Int) := by omega
      clear g1 g2 k1 k2
      go_wp2
      go_quiet (fail)
      go_wp2
      go_roundw
      case rel => exact ⟨k + 1, by omega, by go_num, hd.trans ⟨_, rfl⟩⟩
      case measure => simp [intOf]; omega
    · go_wp2
      go_ret
      exact ⟨rfl, hd⟩
end Go.Proofs.Ytkjapcmnopnblaa
