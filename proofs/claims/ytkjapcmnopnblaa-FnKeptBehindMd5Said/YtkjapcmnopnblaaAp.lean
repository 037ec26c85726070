/- append, on bytes that the call itself has made; a copy of bytes. -/
import Derived.Test.YtkjapcmnopnblaaS3
import Derived.Maps.AppendAt
namespace Go.Proofs.Ytkjapcmnopnblaa
open Go.RowKit

theorem info5 : (Try.prog.info? 5).map (fun i => (i.zero, i.size, i.bytes)) = some (some (.int .u8 0), 1, 1) := by kernel_rfl

/-- v is nil, or a slice of the call's own from block 'base' on, and reads as the bytes bs. -/
def Owns (w : World) (base : Nat) (v : Value) (bs : List UInt8) : Prop := w.ownsRow base 5 1 v bs.length (bs.map B)

theorem Owns.nil (w : World) (base : Nat) : Owns w base (.slice none 0 0) [] := World.ownsRow_nil w base 5 1
theorem Owns.reads {w : World} {base : Nat} {v : Value} {bs : List UInt8} (h : Owns w base v bs) : Reads w v bs := by
  obtain ⟨_, h2⟩ := h
  rcases h2 with ⟨rfl, hl⟩ | ⟨g, cap, cur, rfl, hb, hg, hn, hc, hs, ht⟩
  · obtain rfl : bs = [] := List.eq_nil_of_length_eq_zero hl
    exact Reads.nil w
  · refine ⟨_, cap, rfl, hn, hc, fun h0 => ⟨g, 0, rfl, fun j hj => ?_⟩⟩
    have e : (bs.map B)[j]? = some (B (bs.getD j 0)) := by
      rw [List.getElem?_map, List.getD_eq_getElem?_getD, List.getElem?_eq_getElem hj]; rfl
    rw [← ht, List.getElem?_take] at e
    rw [Nat.zero_add]
    simp only [World.cell?, hg]
    simpa [hj] using e
theorem Owns.fresh {w : World} {base : Nat} {v : Value} {bs : List UInt8} (h : Owns w base v bs) : ∀ k, v.ownBlock = some k → base ≤ k ∧ k < w.heap.size := World.ownsRow.lt h
theorem Owns.of_heap {w w' : World} {base : Nat} {v : Value} {bs : List UInt8} (h : Owns w base v bs) (hh : ∀ k, v.ownBlock = some k → w'.heap[k]? = w.heap[k]?) : Owns w' base v bs := by
  obtain ⟨h1, h2⟩ := h
  refine ⟨h1, ?_⟩
  rcases h2 with hn | ⟨g, cap, cur, rfl, hb, hg, rest⟩
  · exact .inl hn
  · exact .inr ⟨g, cap, cur, rfl, hb, (hh g rfl).trans hg, rest⟩
theorem Owns.below {w w' : World} {base : Nat} {v : Value} {bs : List UInt8} (h : Owns w base v bs) (hb : Below w.heap.size w w') : Owns w' base v bs :=
  h.of_heap fun k hk => hb.block k (h.fresh k hk).2
theorem Owns.dr {w w' : World} {base : Nat} {v : Value} {bs : List UInt8} (h : Owns w base v bs) (hb : Dr w w') : Owns w' base v bs :=
  h.of_heap fun k hk => by obtain ⟨n, rfl⟩ := hb; rfl
theorem Owns.grown {w w' : World} {base g : Nat} {v : Value} {bs : List UInt8} (h : Owns w base v bs) (hg : w.grownBy w' (some g)) (hne : v.ownBlock ≠ some g) : Owns w' base v bs :=
  h.of_heap fun k hk => hg.block k (h.fresh k hk).2 (fun e => hne (hk.trans e))
theorem Owns.mono {w : World} {b b' : Nat} {v : Value} {bs : List UInt8} (h : Owns w b v bs) (hb : b' ≤ b) : Owns w b' v bs := by
  obtain ⟨h1, h2⟩ := h
  refine ⟨h1, ?_⟩
  rcases h2 with hn | ⟨g, cap, cur, rfl, hb2, rest⟩
  · exact .inl hn
  · exact .inr ⟨g, cap, cur, rfl, Nat.le_trans hb hb2, rest⟩

theorem add_at (b o j : Nat) : (⟨b, o, none⟩ : Addr).add j = ⟨b, o + j, none⟩ := by unfold Addr.add; split <;> simp_all
theorem oneCell_B (l : List UInt8) : ∀ u ∈ l.map B, u.oneCell' = true := by
  intro u hu
  simp only [List.mem_map] at hu
  obtain ⟨x, _, rfl⟩ := hu
  rfl

/-- append of bytes to bytes. -/
theorem run_app {w : World} {base : Nat} {v sv : Value} {bs cs : List UInt8} (ty : TypeId) (ho : Owns w base v bs) (hr : Reads w sv cs)
    (hsz : bs.length + cs.length ≤ 140737488355328) (hbase : base ≤ w.heap.size) :
    ∃ v' w', (Builtin.append_ #[24, 24] ty #[v, sv]).run Try.prog w = .ok v' w' ∧ Owns w' base v' (bs ++ cs) ∧ w.grownBy w' v.ownBlock ∧ (v'.ownBlock = v.ownBlock ∨ v'.ownBlock = some w.heap.size) := by
  obtain ⟨i, hi, hz, hs, hb⟩ := info_parts info5
  obtain ⟨ad, c, rfl, h1, h2, h3⟩ := hr
  rcases ad with _ | ad
  · have h0 : cs.length = 0 := by
      rcases Nat.eq_zero_or_pos cs.length with h | h
      · exact h
      · obtain ⟨_, _, e, _⟩ := h3 h
        cases e
    obtain rfl : cs = [] := List.eq_nil_of_length_eq_zero h0
    refine ⟨v, w, ?_, by simpa using ho, ⟨rfl, rfl, rfl, Nat.le_refl _, fun _ _ _ => rfl⟩, .inl rfl⟩
    obtain ⟨_, ho⟩ := ho
    rcases ho with ⟨rfl, _⟩ | ⟨g, cap, cur, rfl, _, _, hn, _⟩
    · simp [Builtin.append_, run_underlying Try.underlying24, Builtin.lenOf, Builtin.firstCells, sizeOf, typeInfo, hi]
    · simp [Builtin.append_, run_underlying Try.underlying24, Builtin.lenOf, Builtin.firstCells, sizeOf, typeInfo, hi, hn, storeCells]
  · have hcells : ∀ j u, (cs.map B)[j]? = some u → w.cell? (ad.add j) = some u := by
      intro j u hu
      have hj : j < cs.length := by simpa using (List.getElem?_eq_some_iff.1 hu).1
      obtain ⟨b, o, e, hc⟩ := h3 (by omega)
      injection e with e
      subst e
      rw [add_at, hc j hj, ← hu, List.getElem?_map, List.getD_eq_getElem?_getD, List.getElem?_eq_getElem hj]
      rfl
    obtain ⟨v', w', hr, h5, h6, _, h7⟩ := run_append_own_at (P := Try.prog) w base 24 ty 5 i _ 1 1 Try.underlying24 hi hz hs hb rfl (by omega) v bs.length (bs.map B) ho ad cs.length c (cs.map B) (by simp) hcells (oneCell_B cs)
      (by unfold maxLen; omega) (by omega) hbase
    refine ⟨v', w', hr, ?_, h6, h7⟩
    unfold Owns
    rw [List.length_append, List.map_append]
    exact h5

theorem s_app {w : World} {ops : Array Oper} {Q : Exit → Act → World → Prop} {a : Act} {rest : List Oper} {d : Option Tmp} {x y : Operand} {ty : TypeId} {pos : String} {af : Array Edge}
    {base : Nat} {v sv : Value} {bs cs : List UInt8} (hx : a.eval x = v) (hy : a.eval y = sv) (ho : Owns w base v bs) (hr : Reads w sv cs)
    (hsz : bs.length + cs.length ≤ 140737488355328) (hbase : base ≤ w.heap.size)
    (h : ∀ v' w', Owns w' base v' (bs ++ cs) → w.grownBy w' v.ownBlock → (v'.ownBlock = v.ownBlock ∨ v'.ownBlock = some w.heap.size) → wpList Try.prog ops Q rest (a.put d v') w') :
    wpList Try.prog ops Q ({ dst := d, op := .call { callee := .builtin .append, args := #[x, y], argTypes := #[24, 24] }, type := ty, pos := pos, after := af, guard := none } :: rest) a w := by
  obtain ⟨v', w', hrun, h1, h2, h3⟩ := run_app ty ho hr hsz hbase
  refine s_run rfl ?_ (h v' w' h1 h2 h3)
  simp only [Go.BigFrame.execOp_builtin, Go.BigFrame.builtin_append, List.map_toArray, List.map_cons, List.map_nil, hx, hy, Sem.run_bind, hrun, Result.andThen_ok, Sem.run_pure]

theorem copied_any (v : Value) (bs : List UInt8) (w : World) (h : Reads w v bs) (hl : bs.length ≤ 140737488355328) :
    Calls Try.prog 36 #[v] w fun e w' => ∃ v', e = .returned v' ∧ Owns w' w.heap.size v' bs ∧ Below w.heap.size w w' := by
  go_enter Try.func36, Try.ntmps36
  refine wp_seq (wp_region_lit ?_)
  refine s_as rfl ?_
  refine wpList_nil (show Code.wp Try.prog _ _ _ _ from ?_)
  refine wp_seq (wp_region_lit ?_)
  refine s_mv (v := v) rfl ?_
  refine s_app (bs := []) (v := .slice none 0 0) rfl rfl (Owns.nil w w.heap.size) h (by simpa using hl) (Nat.le_refl _) (fun v' w' h1 h2 h3 => ?_)
  refine s_as (v := v') rfl ?_
  refine wpList_nil (show Code.wp Try.prog _ _ _ _ from ?_)
  refine wp_ret ?_
  go_ret
  exact ⟨v', rfl, h1, (Below.refl _ _).grown h2 (Nat.le_refl _) (by simp [Value.ownBlock])⟩
end Go.Proofs.Ytkjapcmnopnblaa
