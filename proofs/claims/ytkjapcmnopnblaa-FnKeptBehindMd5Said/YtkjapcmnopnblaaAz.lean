/- append of a string's bytes, and of noughts, to bytes of the call's own. -/
import Derived.Test.YtkjapcmnopnblaaFd
import Derived.Lib.AppendStr
import Derived.Lib.AppendZeros
import Derived.Lib.AppendZerosOnto
namespace Go.Proofs.Ytkjapcmnopnblaa
open Go.RowKit
set_option linter.unusedVariables false

theorem run_appS {w : World} {base : Nat} {v : Value} {bs cs : List UInt8} (ty : TypeId) (ho : Owns w base v bs) (hsz : bs.length + cs.length ≤ 140737488355328) (hbase : base ≤ w.heap.size) :
    ∃ v' w', (Builtin.append_ #[24, 9] ty #[v, strB cs]).run Try.prog w = .ok v' w' ∧ Owns w' base v' (bs ++ cs) ∧ w.grownBy w' v.ownBlock := by
  obtain ⟨i, hi, hz, hs, hb⟩ := info_parts info5
  have hsize : (ByteArray.mk cs.toArray).size = cs.length := rfl
  obtain ⟨v', w', hr, h5, h6, _⟩ := Go.Lib.run_append_own_string (P := Try.prog) w base 24 9 ty 5 i Try.underlying24 Try.underlying9 hi hz hs hb v bs.length (bs.map B) ho ⟨cs.toArray⟩ (by rw [hsize]; unfold maxLen; omega) (by rw [hsize]; exact hsz) hbase
  refine ⟨v', w', hr, ?_, h6⟩
  unfold Owns
  rw [List.length_append, List.map_append]
  rw [hsize] at h5
  have e : Go.Lib.strCells ⟨cs.toArray⟩ = cs.map B := by simp [Go.Lib.strCells]
  rw [e] at h5
  exact h5

theorem zeroCells_eq (n : Nat) : Builtin.zeroCells (Value.int .u8 0).cells n = (List.replicate n (Value.int .u8 0)).toArray := by
  have hc : (Value.int .u8 0).cells = #[Value.int .u8 0] := rfl
  rw [hc]
  apply Array.ext
  · simp [Builtin.zeroCells]
  · intro i h1 h2
    simp [Builtin.zeroCells, Nat.mod_one]
theorem B_zero : B (0 : UInt8) = .int .u8 0 := rfl

theorem run_appZ {w : World} {base : Nat} {v : Value} {bs : List UInt8} (ty : TypeId) (ho : Owns w base v bs) (k : Nat) (hk : 0 < k) (hsz : bs.length + k ≤ 1000000) (hbase : base ≤ w.heap.size) :
    ∃ v' w', (Builtin.append_ #[24, 3] ty #[v, .int .i64 (k : Int)]).run Try.prog w = .ok v' w' ∧ Owns w' base v' (bs ++ List.replicate k 0) ∧ w.grownBy w' v.ownBlock := by
  obtain ⟨i, hi, hz, hs, hb⟩ := info_parts info5
  have hmap : (bs ++ List.replicate k (0 : UInt8)).map B = bs.map B ++ List.replicate k (Value.int .u8 0) := by rw [List.map_append, List.map_replicate]; rfl
  have hlen : (bs ++ List.replicate k (0 : UInt8)).length = bs.length + k := by simp
  have grown : ∀ (old : Nat) (row : Option Nat),
      Owns (w.drew.alloc (.cells ((bs.map B).toArray ++ Builtin.zeroCells (Value.int .u8 0).cells k ++ Builtin.zeroCells (Value.int .u8 0).cells (grownCap w (bs.length + k) old 5 - (bs.length + k))) 5)) base
        (.slice (some ⟨w.heap.size, 0, none⟩) (bs.length + k) (grownCap w (bs.length + k) old 5)) (bs ++ List.replicate k 0) ∧
      w.grownBy (w.drew.alloc (.cells ((bs.map B).toArray ++ Builtin.zeroCells (Value.int .u8 0).cells k ++ Builtin.zeroCells (Value.int .u8 0).cells (grownCap w (bs.length + k) old 5 - (bs.length + k))) 5)) row := by
    intro old row
    have hge := grownCap_ge w (bs.length + k) old 5
    have hcm : grownCap w (bs.length + k) old 5 ≤ maxLen := grownCap_le_maxLen w (bs.length + k) old 5 (by unfold maxLen; omega)
    refine ⟨⟨by rw [List.length_map]; simp, .inr ⟨w.heap.size, _, _, by rw [hlen], hbase, heap_alloc_new w.drew _, by rw [hlen]; exact hge, hcm, ?_, ?_⟩⟩, ⟨rfl, rfl, rfl, by simp, fun j hj _ => heap_alloc_lt w.drew _ j hj⟩⟩
    · rw [zeroCells_eq, zeroCells_eq]
      simp only [Array.size_append, List.size_toArray, List.length_map, List.length_replicate]
      omega
    · rw [hmap, hlen, zeroCells_eq, zeroCells_eq]
      simp only [Array.toList_append, Nat.mul_one]
      have e2 : (bs.map B ++ List.replicate k (Value.int .u8 0)).length = bs.length + k := by simp
      rw [← e2]
      exact List.take_left
  obtain ⟨hown1, hown2⟩ := id ho
  rcases hown2 with ⟨rfl, hn⟩ | ⟨g, cap, cur, rfl, hbg, hg, hnc, hcm, hcs, htake⟩
  · obtain rfl : bs = [] := List.eq_nil_of_length_eq_zero hn
    have hr := Go.Lib.run_append_nil_zeros (P := Try.prog) w 24 3 ty 5 i (.int .u8 0) .i64 .i64 Try.underlying24 Try.underlying3 hi hz k hk (by rw [hs]; omega) (by simp at hsz; omega) (by rw [hb]; simp at hsz; omega)
    have hgr := grown 0 (Value.ownBlock (.slice none 0 0))
    simp only [List.length_nil, Nat.zero_add, List.map_nil, List.nil_append, Array.empty_append] at hgr ⊢
    exact ⟨_, _, hr, hgr.1, hgr.2⟩
  · have hcs' : cur.size = cap := by simpa using hcs
    have ht' : cur.toList.take bs.length = bs.map B := by simpa using htake
    by_cases hroom : bs.length + k ≤ cap
    · have hst := run_storeCells_at Try.prog g bs.length 5 (List.replicate k (Value.int .u8 0)) 0 cur w hg (by simp; omega) (by intro u hu; rw [List.eq_of_mem_replicate hu]; rfl)
      have hw : IntKind.i64.wrap (k : Int) = k := by rw [IntKind.wrap_i64]; omega
      have hneg : ¬ ((k : Int) < 0) := by omega
      have h48i : ¬ (281474976710656 < (k : Int)) := by omega
      have hk0 : k ≠ 0 := by omega
      simp only [Nat.add_zero, List.length_replicate] at hst
      refine ⟨.slice (some ⟨g, 0, none⟩) (bs.length + k) cap, w.setRow g (cur.toList.take bs.length ++ List.replicate k (Value.int .u8 0) ++ cur.toList.drop (bs.length + k)).toArray, ?_, ⟨by rw [List.length_map]; simp, .inr ⟨g, cap, _, by rw [hlen], hbg, setRow_heap w g cur _ 5 _ hg, by rw [hlen]; exact hroom, hcm, ?_, ?_⟩⟩, ?_⟩
      · simp [Builtin.append_, run_underlying Try.underlying24, run_underlying Try.underlying3, sizeOf, typeInfo, zeroValue, hi, hz, hs, hb, asInt, asIntOf, hw, hneg, h48i, hroom, hk0, zeroCells_eq, Addr.add_lit, hst]
      · simp only [List.size_toArray, List.length_append, List.length_take, List.length_drop, Array.length_toList, List.length_replicate]
        omega
      · rw [hmap, hlen, ht']
        have e2 : (bs.map B ++ List.replicate k (Value.int .u8 0)).length = bs.length + k := by simp
        simp only [Nat.mul_one]
        rw [← e2]
        exact List.take_left
      · exact ⟨rfl, rfl, rfl, by simp, fun j _ hj => setRow_other w g j _ (fun e => hj (by simp [Value.ownBlock, e]))⟩
    · have holds : ∀ j u, (bs.map B)[j]? = some u → w.cell? ((⟨g, 0, none⟩ : Addr).add j) = some u := World.ownsRow.cells (g := g) ho rfl
      have hfo := run_firstCells_some (P := Try.prog) w.drew i.size bs.length ⟨g, 0, none⟩ bs.length cap (bs.map B) (by rw [hs]; simp) (by simpa using holds)
      have hr := Go.Lib.run_append_grow_zeros (P := Try.prog) w 24 3 ty 5 i (.int .u8 0) .i64 .i64 Try.underlying24 Try.underlying3 hi hz (some ⟨g, 0, none⟩) bs.length cap (bs.map B) hfo k hk (by rw [hs]; omega) (by omega) (by omega) (by rw [hb]; omega)
        (by rw [hb]; exact growslice_fits (by omega) (by omega))
      exact ⟨_, _, hr, (grown cap none).1, (grown cap (Value.ownBlock (.slice (some ⟨g, 0, none⟩) bs.length cap))).2⟩
end Go.Proofs.Ytkjapcmnopnblaa
