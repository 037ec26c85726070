/- A new digest; a digest behind pieces. -/
import Derived.Test.YtkjapcmnopnblaaPc
namespace Go.Proofs.Ytkjapcmnopnblaa
open Go.RowKit
set_option linter.unusedVariables false

set_option maxHeartbeats 2000000 in
theorem new_any (w : World) : Calls Try.prog 46 #[] w fun e w' => e = .returned (.pointer (some ⟨w.heap.size, 0, none⟩)) ∧ Rep w' w.heap.size [] ∧ Below w.heap.size w w' := by
  have hz3 := zero78
  have hz4 := digZ_size
  go_enter Try.func46, Try.ntmps46
  go_wp2_with fail
  have b2 : Below w.heap.size w (w.alloc (.cells digZ 78)) := (Below.refl _ _).alloc (Nat.le_refl _) _
  have d0 : Dig (w.alloc (.cells digZ 78)) w.heap.size ⟨0, 0, 0, 0⟩ (List.replicate 64 0) 0 0 := ⟨heap_alloc_at _ _ _ rfl, by simp⟩
  generalize (w.alloc (.cells digZ 78)) = w2 at *
  refine (reset_any w.heap.size _ _ 0 0 w2 d0).mono ?_
  rintro e w3 ⟨rfl, d3, g3⟩
  have R3 := Lib.hid (⟨_, _, _, d3, Md.rp_init d3.len⟩ : Rep w3 w.heap.size [])
  have B3 := Lib.hid (Below.grown b2 g3 b2.size (fun k hk => by injection hk with hk; omega))
  clear b2 d0 d3 g3
  go_wp2_with fail
  go_ret
  exact ⟨rfl, R3.out, B3.out⟩

set_option maxHeartbeats 2000000 in
theorem newMd5_any (w : World) : Calls Try.prog 34 #[.int .i64 7] w fun e w' => e = .returned (.pointer (some ⟨w.heap.size, 0, none⟩)) ∧ Rep w' w.heap.size [] ∧ Below w.heap.size w w' := by
  go_enter Try.func34, Try.ntmps34
  go_wp2_with fail
  refine (new_any w).mono ?_
  rintro e w1 ⟨rfl, r1, b1⟩
  have R1 := Lib.hid r1
  have B1 := Lib.hid b1
  clear r1 b1
  go_wp2_with fail
  go_ret
  exact ⟨rfl, R1.out, B1.out⟩

set_option maxRecDepth 100000 in
set_option maxHeartbeats 4000000 in
theorem fed_any (v : Value) (ps : List (List UInt8)) (w : World) (h : Pieces w v ps) (hl : ps.flatten.length ≤ 5000) (hl2 : ps.length ≤ 100) :
    Calls Try.prog 32 #[.int .i64 7, v] w fun e w' => e = .returned (.pointer (some ⟨w.heap.size, 0, none⟩)) ∧ Rep w' w.heap.size ps.flatten ∧ Below w.heap.size w w' := by
  obtain ⟨a1, c1, rfl, hc1, hm1, _⟩ := id h
  obtain ⟨n, hn⟩ : ∃ n, n = ps.length := ⟨_, rfl⟩
  rw [← hn] at hc1 hl2 ⊢
  have H1 : Hid (Pieces w (.slice a1 n c1) ps) := Lib.hid (by have h2 := h; rw [← hn] at h2; exact h2)
  have HN := Lib.hid hn
  have HL := Lib.hid hl
  clear h hn hl
  obtain ⟨g, hg⟩ : ∃ g, g = w.heap.size := ⟨_, rfl⟩
  have HGG := Lib.hid hg
  go_enter Try.func32, Try.ntmps32
  go_wp2_with fail
  refine (newMd5_any w).mono ?_
  rw [← hg]
  rintro e w1 ⟨rfl, r1, b1⟩
  have R1 := Lib.hid r1
  have B1 : Hid (Below w.heap.size w w1) := Lib.hid (by rw [← HGG.out]; exact b1)
  clear r1 b1 hg
  go_wp2_with fail
  go_loopw [7, 14] (fun _ i wr => ∃ (j : Nat), j ≤ n ∧ i = .int .i64 (j : Int) ∧ Hid (Rep wr g (upTo ps j)) ∧ Hid (Below w.heap.size w wr))
    (fun _ i _ => n - (intOf i).toNat)
  case atStart => exact ⟨0, Nat.zero_le _, rfl, R1, B1⟩
  case round =>
    obtain ⟨j, hj, rfl, hr, hb⟩ := hrel
    by_cases hlt : j < n
    · have q : (j : Int) < (n : Int) := by omega
      obtain ⟨b, o, ad2, c2, rfl, L, R0, hle⟩ := (H1.out.below hb.out).at j (by rw [← HN.out]; exact hlt)
      obtain ⟨pv, hpv⟩ : ∃ pv, pv = Value.slice ad2 (ps.getD j []).length c2 := ⟨_, rfl⟩
      rw [← hpv] at L R0
      have q2 : (j : Int) < 9223372036854775807 := by omega
      have hup := upTo_succ ps j (by rw [← HN.out]; exact hlt)
      have hle2 : (upTo ps j).length + (ps.getD j []).length ≤ 5000 := by
        rw [← List.length_append, ← hup]
        refine Nat.le_trans ?_ HL.out
        unfold upTo
        rw [← List.take_append_drop (j + 1) ps, List.flatten_append, List.length_append]
        rw [List.take_append_drop]
        omega
      have HUP := Lib.hid hup
      have HLE := Lib.hid hle2
      have R := Lib.hid R0
      clear hpv hle hup hle2 R0
      go_wp2_with fail
      refine (copied_any pv (ps.getD j []) wr R.out (by have := HLE.out; omega)).mono ?_
      rintro e w2 ⟨v2, rfl, o2, b2⟩
      have O2 := Lib.hid o2
      have B2 := Lib.hid (RB.trans (a := w) hb.out b2)
      have hgl : g < wr.heap.size := hr.out.lt
      have R2 := Lib.hid (hr.out.below b2)
      clear o2 b2
      go_wp2_with fail
      refine (write_any g v2 (upTo ps j) (ps.getD j []) w2 R2.out O2.out.reads (fun h => by have := (O2.out.fresh g h).1; omega) (by have := HLE.out; omega)).mono ?_
      rintro e w3 ⟨rfl, r3, g3⟩
      rw [← HUP.out] at r3
      have R3 := Lib.hid r3
      have B3 := Lib.hid (Below.grown B2.out g3 B2.out.size (fun k hk => by injection hk with hk; rw [← hk, HGG.out]; exact Nat.le_refl _))
      clear r3 g3 hgl
      go_wp2
      go_roundw
      case rel => exact ⟨j + 1, hlt, by simp, R3, B3⟩
      case measure => simp [intOf]; omega
    · obtain rfl : j = n := by omega
      have q : ¬ (j : Int) < (j : Int) := by omega
      clear hlt
      go_wp2_with fail
      go_ret
      have h := hr.out
      rw [upTo_all ps j HN.out] at h
      rw [← HGG.out]
      exact ⟨rfl, h, by have h := hb.out; rw [← HGG.out] at h; exact h⟩

theorem dig_range {w : World} {g : Nat} {s : Md.St} {xs : List UInt8} {nx ln : Nat} (h : Dig w g s xs nx ln) : w.rangeAt g 0 (digC s xs nx ln) := by
  intro j v hv
  rw [Nat.zero_add, h.cell j, hv]
theorem dig_there {w : World} {g : Nat} {s : Md.St} {xs : List UInt8} {nx ln : Nat} (h : Dig w g s xs nx ln) : w.there g 0 70 := by
  intro j hj
  have hs := h.size
  rw [Nat.zero_add, h.cell j]
  exact ⟨by rw [List.getElem?_eq_getElem (by omega)]; rfl, h.free j⟩
theorem digC_one (s : Md.St) (xs : List UInt8) (nx ln : Nat) : ∀ v ∈ digC s xs nx ln, v.oneCell' = true := by
  intro v hv
  simp only [digC, List.mem_cons, List.mem_append, List.mem_map, List.not_mem_nil, or_false] at hv
  rcases hv with rfl | rfl | rfl | rfl | ⟨x, _, rfl⟩ | rfl | rfl <;> rfl
theorem run_ld78 {w : World} {g : Nat} {s : Md.St} {xs : List UInt8} {nx ln : Nat} (h : Dig w g s xs nx ln) : (Instr.loadAt 78 (.pointer (some ⟨g, 0, none⟩))).run Try.prog w = .ok (.agg (digC s xs nx ln).toArray) w :=
  run_loadAt_mid w g 0 78 (digC s xs nx ln) _ (dig_range h) Try.underlying78 rfl (by rw [h.size]; kernel_rfl)
theorem e_ld78 {w : World} {a : Act} {d : Option Tmp} {x : Operand} {ty : TypeId} {pos : String} {af : Array Edge} {g : Nat} {s : Md.St} {xs : List UInt8} {nx ln : Nat} (hx : a.eval x = .pointer (some ⟨g, 0, none⟩)) (h : Dig w g s xs nx ln) :
    (execOp a.eval { dst := d, op := .load 78 x, type := ty, pos := pos, after := af, guard := none }).run Try.prog w = .ok (.value (.agg (digC s xs nx ln).toArray)) w := by
  simp only [execOp, hx, Sem.run_bind, run_ld78 h, Result.andThen_ok, Sem.run_pure]
theorem s_store78 {w : World} {ops : Array Oper} {Q : Exit → Act → World → Prop} {a : Act} {rest : List Oper} {x y : Operand} {ty : TypeId} {pos : String} {af : Array Edge} {n : Nat} {s s0 : Md.St} {xs xs0 : List UInt8} {nx nx0 ln ln0 : Nat}
    (hx : a.eval x = .pointer (some ⟨n, 0, none⟩)) (hy : a.eval y = .agg (digC s xs nx ln).toArray) (hl : xs.length = 64) (hD : Dig w n s0 xs0 nx0 ln0)
    (h : ∀ w', Dig w' n s xs nx ln → w.grownBy w' (some n) → wpList Try.prog ops Q rest a w') :
    wpList Try.prog ops Q ({ dst := none, op := .store 78 x y, type := ty, pos := pos, after := af, guard := none } :: rest) a w := by
  have hsz : (digC s xs nx ln).length = 70 := by simp [digC, hl]
  have hsz0 := hD.size
  refine wpList_store_mid rfl 78 x y rfl n 0 (digC s xs nx ln).toArray hx hy (by simpa [hsz] using dig_there hD) (by simp only [List.size_toArray, hsz]; kernel_rfl) (all_oneCell_toArray (digC_one _ _ _ _)) (h _ ⟨?_, hl⟩ (grown_setCells _ _ 0 w))
  rw [heap_setCells (digC s xs nx ln) 0 (digC s0 xs0 nx0 ln0) w hD.heap (by omega)]
  simp [hsz, hsz0]
theorem stand_load {P : Program} {ops : Array Oper} {Q : Exit → Act → World → Prop} {a : Act} {w : World} {rest : List Oper} {d : Option Tmp} {t : TypeId} {x : Operand} {ty : TypeId} {pos : String} {af : Array Edge} {gd : Option (Nat × Bool)}
    (h : Stand (wpList P ops Q ({ dst := d, op := .load t x, type := ty, pos := pos, after := af, guard := gd } :: rest) a w)) :
    wpList P ops Q ({ dst := d, op := .load t x, type := ty, pos := pos, after := af, guard := gd } :: rest) a w := by
  unfold Stand at h; exact h

set_option maxRecDepth 100000 in
set_option maxHeartbeats 4000000 in
theorem dsum_any (g : Nat) (m : List UInt8) (v : Value) (bs : List UInt8) (base : Nat) (w : World) (h : Rep w g m) (hO : Owns w base v bs) (hbase : base ≤ w.heap.size) (hl : m.length ≤ 288230376151711744) (hl2 : bs.length ≤ 100000) :
    Calls Try.prog 38 #[.pointer (some ⟨g, 0, none⟩), v] w fun e w' => ∃ v', e = .returned v' ∧ Owns w' base v' (bs ++ Md.md5 m) ∧ w.grownBy w' v.ownBlock ∧ (∀ k, v'.ownBlock = some k → v.ownBlock = some k ∨ w.heap.size ≤ k) := by
  obtain ⟨s, xs, nx, hD, hP⟩ := id h
  have hz := zero65
  have hz2 := Z16_size
  have hz3 := zero78
  have hz4 := digZ_size
  have H := Lib.hid h
  have HO := Lib.hid hO
  have HD := Lib.hid hD
  have HP := Lib.hid hP
  have HL := Lib.hid hl
  have HL2 := Lib.hid hl2
  have HBASE := Lib.hid hbase
  have hg : g < w.heap.size := hD.lt
  clear h hO hD hP hl hl2 hbase
  go_enter Try.func38, Try.ntmps38
  go_wp2_with (refine stand_load ?_)
  refine go_on (s_run (v := .agg (digC s xs nx m.length).toArray) (w' := w) rfl (e_ld78 rfl HD.out) ?_)
  go_wp2_with (refine stand_store ?_)
  have b2 : Below w.heap.size w (w.alloc (.cells digZ 78)) := (Below.refl _ _).alloc (Nat.le_refl _) _
  have d0 : Dig (w.alloc (.cells digZ 78)) w.heap.size ⟨0, 0, 0, 0⟩ (List.replicate 64 0) 0 0 := ⟨heap_alloc_at _ _ _ rfl, by simp⟩
  refine go_on (s_store78 (n := w.heap.size) rfl rfl HD.out.len d0 (fun w3 d3 g3 => ?_))
  have b3 : Below w.heap.size w w3 := Below.grown b2 g3 b2.size (fun k hk => by injection hk with hk; omega)
  have R3 := Lib.hid (⟨_, _, _, d3, HP.out⟩ : Rep w3 w.heap.size m)
  have B3 := Lib.hid b3
  clear b2 d0 d3 g3 b3
  go_wp2_with fail
  refine (checkSum_any w.heap.size m w3 R3.out HL.out).mono ?_
  rintro e w4 ⟨rfl, g4⟩
  have b4 : Below w.heap.size w w4 := Below.grown B3.out g4 B3.out.size (fun k hk => by injection hk with hk; omega)
  have B4 := Lib.hid b4
  clear g4 b4
  go_wp2_with (refine stand_store ?_)
  have r5 : Row (w4.alloc (.cells Z16 65)) w4.heap.size 65 (List.replicate 16 0) := heap_alloc_at _ _ _ rfl
  have b5 : Below w.heap.size w (w4.alloc (.cells Z16 65)) := B4.out.alloc B4.out.size _
  have hsz := B4.out.size
  obtain ⟨c, hc⟩ : ∃ c, c = w4.heap.size := ⟨_, rfl⟩
  rw [← hc] at r5 hsz ⊢
  refine go_on (s_store65 (n := c) (cs := Md.md5 m) rfl rfl (Md.md5_length _) r5 (by simp) (fun w6 r6 g6 => ?_))
  have b6 : Below w.heap.size w w6 := Below.grown b5 g6 b5.size (fun k hk => by injection hk with hk; omega)
  have R6 := Lib.hid r6
  have B6 := Lib.hid b6
  clear r5 b5 r6 g6 b6 hc
  go_wp2_with (refine stand_app ?_)
  have hr : Reads w6 (.slice (some ⟨c, 0, none⟩) 16 16) (Md.md5 m) := by
    have h := R6.out.reads 0 16 16 (by rw [Md.md5_length]; omega) (Nat.le_refl _) (by unfold maxLen; omega)
    rw [List.drop_zero, List.take_of_length_le (by rw [Md.md5_length]; omega)] at h
    exact h
  refine go_on (s_app (v := v) (bs := bs) (cs := Md.md5 m) rfl rfl (HO.out.below B6.out) hr (by have := HL2.out; rw [Md.md5_length]; omega) (Nat.le_trans HBASE.out B6.out.size) (fun v7 w7 o7 g7 e7 => ?_))
  have O7 := Lib.hid o7
  have G7 := Lib.hid g7
  have E7 := Lib.hid e7
  clear o7 g7 e7 hr
  go_wp2_with fail
  go_ret
  refine ⟨_, rfl, O7.out, ⟨G7.out.os.trans B6.out.os, G7.out.tape.trans B6.out.tape, G7.out.output.trans B6.out.output, Nat.le_trans B6.out.size G7.out.size, fun i hi hne => (G7.out.block i (Nat.lt_of_lt_of_le hi B6.out.size) hne).trans (B6.out.block i hi)⟩, fun k hk => ?_⟩
  rcases E7.out with h | h
  · exact .inl (h ▸ hk)
  · refine .inr ?_
    have h2 : some k = some w6.heap.size := hk.symm.trans h
    injection h2 with h2
    rw [h2]
    exact B6.out.size

set_option maxHeartbeats 2000000 in
theorem hash_any (v : Value) (ps : List (List UInt8)) (w : World) (h : Pieces w v ps) (hl : ps.flatten.length ≤ 5000) (hl2 : ps.length ≤ 100) :
    Calls Try.prog 24 #[.int .i64 7, v] w fun e w' => ∃ v', e = .returned v' ∧ Reads w' v' (Md.md5 ps.flatten) ∧ Below w.heap.size w w' := by
  have H := Lib.hid h
  have HL := Lib.hid hl
  have HL2 := Lib.hid hl2
  clear h hl hl2
  go_enter Try.func24, Try.ntmps24
  go_wp2_with fail
  refine (fed_any v ps w H.out HL.out HL2.out).mono ?_
  rintro e w1 ⟨rfl, r1, b1⟩
  have R1 := Lib.hid r1
  have B1 := Lib.hid b1
  clear r1 b1
  go_wp2_with fail
  refine (dsum_any w.heap.size ps.flatten (.slice none 0 0) [] w.heap.size w1 R1.out (Owns.nil _ _) B1.out.size (by have := HL.out; omega) (by simp)).mono ?_
  rintro e w2 ⟨v2, rfl, o2, g2, _⟩
  have O2 := Lib.hid o2.reads
  have B2 := Lib.hid (Below.grown B1.out g2 B1.out.size (fun k hk => by cases hk))
  clear o2 g2
  go_wp2_with fail
  go_ret
  exact ⟨_, rfl, O2.out, B2.out⟩
end Go.Proofs.Ytkjapcmnopnblaa
