/- The reference's block: spec.BlockMd5 takes a state of four words up with a block of 64 bytes, in new memory. -/
import Derived.Test.YtkjapcmnopnblaaS2
import Derived.RegionTactic
import Derived.BigRegion
import Derived.ChangeAlike
import Derived.Lib.Hide
namespace Go.Proofs.Ytkjapcmnopnblaa
open Go.RowKit

theorem bits_and_w (x y : Md.W) : bits .and .u32 (x.toNat : Int) (y.toNat : Int) = ((x &&& y).toNat : Int) := by
  show IntKind.u32.wrap ((BitVec.ofInt 32 (x.toNat : Int) &&& BitVec.ofInt 32 (y.toNat : Int)).toNat : Int) = _
  rw [ofInt_toNat32, ofInt_toNat32, wrap_u32_toNat]
theorem bits_xor_w (x y : Md.W) : bits .xor .u32 (x.toNat : Int) (y.toNat : Int) = ((x ^^^ y).toNat : Int) := by
  show IntKind.u32.wrap ((BitVec.ofInt 32 (x.toNat : Int) ^^^ BitVec.ofInt 32 (y.toNat : Int)).toNat : Int) = _
  rw [ofInt_toNat32, ofInt_toNat32, wrap_u32_toNat]
theorem bits_andNot_w (x y : Md.W) : bits .andNot .u32 (x.toNat : Int) (y.toNat : Int) = ((x &&& ~~~ y).toNat : Int) := by
  show IntKind.u32.wrap ((BitVec.ofInt 32 (x.toNat : Int) &&& ~~~ BitVec.ofInt 32 (y.toNat : Int)).toNat : Int) = _
  rw [ofInt_toNat32, ofInt_toNat32, wrap_u32_toNat]
theorem bits_max_w (x : Md.W) : bits .xor .u32 IntKind.u32.max (x.toNat : Int) = ((~~~ x).toNat : Int) := by
  show IntKind.u32.wrap ((BitVec.ofInt 32 (IntKind.u32.max) ^^^ BitVec.ofInt 32 (x.toNat : Int)).toNat : Int) = _
  rw [ofInt_toNat32, wrap_u32_toNat]
  have h : BitVec.ofInt 32 (IntKind.u32.max) = BitVec.allOnes 32 := by decide
  rw [h, BitVec.allOnes_xor]
theorem w_add4 (a b c d : Md.W) : ((a.toNat : Int) + (b.toNat : Int) + (c.toNat : Int) + (d.toNat : Int)) % (4294967296 : Int) = ((a + b + c + d).toNat : Int) := by
  simp only [BitVec.toNat_add]
  omega
theorem w_add2 (a b : Md.W) : ((a.toNat : Int) + (b.toNat : Int)) % (4294967296 : Int) = ((a + b).toNat : Int) := by
  simp only [BitVec.toNat_add]
  omega
theorem le32_int (b0 b1 b2 b3 : UInt8) : bits BinOp.or IntKind.u32 (bits BinOp.or IntKind.u32 (bits BinOp.or IntKind.u32 (b0.toNat : Int) ((b1.toNat : Int) * (256 : Int))) ((b2.toNat : Int) * (65536 : Int))) ((b3.toNat : Int) * (16777216 : Int)) = ((Md.le32 b0 b1 b2 b3).toNat : Int) := by
  have e0 : (b0.toNat : Int) = ((Md.w8 b0).toNat : Int) := by rw [w8_toNat]
  have e1 : (b1.toNat : Int) * (256 : Int) = ((Md.w8 b1 <<< 8).toNat : Int) := by have := w8_shl b1 8 (by omega); omega
  have e2 : (b2.toNat : Int) * (65536 : Int) = ((Md.w8 b2 <<< 16).toNat : Int) := by have := w8_shl b2 16 (by omega); omega
  have e3 : (b3.toNat : Int) * (16777216 : Int) = ((Md.w8 b3 <<< 24).toNat : Int) := by have := w8_shl b3 24 (by omega); omega
  rw [e0, e1, e2, e3, bits_or_w, bits_or_w, bits_or_w]
  rfl
theorem left32_at (z : Md.W) (k : Nat) (n : Int) (hz : n = (z.toNat : Int)) (w : World) (h1 : 1 ≤ k) (h2 : k ≤ 31) :
    Calls Try.prog 41 #[.int .u32 n, .int .i64 (k : Int)] w fun e w' => e = .returned (U (Md.rotl z k)) ∧ Dr w w' := hz ▸ left32_any z k w h1 h2
theorem val_int {k : IntKind} {a b : Int} (h : a = b) : Value.int k a = Value.int k b := by rw [h]

/-- One place of a list of four numbers. -/
theorem tab4 (A B C D : Int) (a b c d : Nat) (hA : A = (a : Int)) (hB : B = (b : Int)) (hC : C = (c : Int)) (hD : D = (d : Int)) (m : Nat) (hm : m < 4) (h1 : 1 ≤ a ∧ 1 ≤ b ∧ 1 ≤ c ∧ 1 ≤ d) (h2 : a ≤ 31 ∧ b ≤ 31 ∧ c ≤ 31 ∧ d ≤ 31) :
    ∃ x : Nat, x = [a, b, c, d].getD m 0 ∧ 1 ≤ x ∧ x ≤ 31 ∧ ∀ h : m < ([Value.int .i64 A, .int .i64 B, .int .i64 C, .int .i64 D] : List Value).length,
      ([Value.int .i64 A, .int .i64 B, .int .i64 C, .int .i64 D] : List Value)[m]'h = .int .i64 (x : Int) := by
  subst hA hB hC hD
  match m, hm with
  | 0, _ => exact ⟨a, rfl, h1.1, h2.1, fun _ => rfl⟩
  | 1, _ => exact ⟨b, rfl, h1.2.1, h2.2.1, fun _ => rfl⟩
  | 2, _ => exact ⟨c, rfl, h1.2.2.1, h2.2.2.1, fun _ => rfl⟩
  | 3, _ => exact ⟨d, rfl, h1.2.2.2, h2.2.2.2, fun _ => rfl⟩
theorem stp_q0 {X : Nat → Md.W} {t : Nat} {ra rb rc rd : Md.W} (h : t / 16 = 0) : Md.stp X t ⟨ra, rb, rc, rd⟩ = ⟨rd, rb + Md.rotl (ra + (rb &&& rc ||| ~~~rb &&& rd) + X t + Md.kk t) ([7, 12, 17, 22].getD (t % 4) 0), rb, rc⟩ := by
  unfold Md.stp Md.ff Md.ss Md.gg
  rw [h]
  rfl
theorem stp_q1 {X : Nat → Md.W} {t : Nat} {ra rb rc rd : Md.W} (h : t / 16 = 1) : Md.stp X t ⟨ra, rb, rc, rd⟩ = ⟨rd, rb + Md.rotl (ra + (rb &&& rd ||| rc &&& ~~~rd) + X ((5 * t + 1) % 16) + Md.kk t) ([5, 9, 14, 20].getD (t % 4) 0), rb, rc⟩ := by
  unfold Md.stp Md.ff Md.ss Md.gg
  rw [h]
  rfl
theorem stp_q2 {X : Nat → Md.W} {t : Nat} {ra rb rc rd : Md.W} (h : t / 16 = 2) : Md.stp X t ⟨ra, rb, rc, rd⟩ = ⟨rd, rb + Md.rotl (ra + (rb ^^^ rc ^^^ rd) + X ((3 * t + 5) % 16) + Md.kk t) ([4, 11, 16, 23].getD (t % 4) 0), rb, rc⟩ := by
  unfold Md.stp Md.ff Md.ss Md.gg
  rw [h]
  rfl
theorem stp_q3 {X : Nat → Md.W} {t : Nat} {ra rb rc rd : Md.W} (h : t / 16 = 3) : Md.stp X t ⟨ra, rb, rc, rd⟩ = ⟨rd, rb + Md.rotl (ra + (rc ^^^ (rb ||| ~~~rd)) + X (7 * t % 16) + Md.kk t) ([6, 10, 15, 21].getD (t % 4) 0), rb, rc⟩ := by
  unfold Md.stp Md.ff Md.ss Md.gg
  rw [h]
  rfl
def stL (s : Md.St) : List Md.W := [s.a, s.b, s.c, s.d]

set_option maxRecDepth 100000 in
set_option maxHeartbeats 16000000 in
theorem specBlock_any (hv pv : Value) (s : Md.St) (bs : List UInt8) (w : World) (h1 : Words w hv (stL s)) (h2 : Reads w pv bs) (hl : 64 ≤ bs.length) :
    Calls Try.prog 22 #[hv, pv] w fun e w' => ∃ v, e = .returned v ∧ Words w' v (stL (Md.blk s bs)) ∧ Below w.heap.size w w' := by
  obtain ⟨a1, c1, rfl, d1, _, g1⟩ := h1
  obtain ⟨a2, c2, rfl, d2, hm, g2⟩ := h2
  obtain ⟨b1, o1, rfl, k1⟩ := g1 (by simp [stL])
  obtain ⟨b2, o2, rfl, k2⟩ := g2 (by omega)
  have ca : w.cell? ⟨b1, o1, none⟩ = some (U s.a) := k1 0 (by simp [stL])
  have cb : w.cell? ⟨b1, o1 + 1, none⟩ = some (U s.b) := k1 1 (by simp [stL])
  have cc : w.cell? ⟨b1, o1 + 2, none⟩ = some (U s.c) := k1 2 (by simp [stL])
  have cd : w.cell? ⟨b1, o1 + 3, none⟩ = some (U s.d) := k1 3 (by simp [stL])
  have hlen : (stL s).length = 4 := rfl
  rw [hlen] at d1 ⊢
  clear g1 g2 k1 hlen
  have K2 : Hid _ := k2
  clear k2
  go_enter Try.func22, Try.ntmps22
  go_wp2
  go_quiet (fail)
  go_wp2_with (go_at_call 40; refine (sines_any _).mono ?_; rintro e w' ⟨rfl, rfl⟩)
  obtain ⟨W, hW⟩ : ∃ W, W = (w.drewN nq).alloc (Obj.cells sineC.toArray 58) := ⟨_, rfl⟩
  rw [← hW]
  have hbW : Below w.heap.size w W := by rw [hW]; exact (below_dr ⟨nq, rfl⟩).alloc (Nat.le_refl _) _
  have hSW : Hid (∀ t, t < 64 → W.cell? ⟨w.heap.size, t, none⟩ = some (U (Md.kk t))) := fun t ht => by
    rw [hW, World.cell?_alloc_at _ _ _ _ (by simp)]; exact sineC_at t ht
  have hzW : w.heap.size < W.heap.size := by rw [hW]; simp
  clear hW
  go_loopw [5, 6, 7, 8, 28] (fun a b c d i wr => ∃ t : Nat, t ≤ 64 ∧ i = .int .i64 t ∧ a = U (Md.rounds (Md.wordAt bs) t s).a ∧ b = U (Md.rounds (Md.wordAt bs) t s).b ∧ c = U (Md.rounds (Md.wordAt bs) t s).c ∧ d = U (Md.rounds (Md.wordAt bs) t s).d ∧ Below W.heap.size W wr)
    (fun _ _ _ _ i _ => 64 - (intOf i).toNat)
  case atStart => exact ⟨0, Nat.zero_le _, rfl, rfl, rfl, rfl, rfl, Below.refl _ _⟩
  case round =>
    obtain ⟨t, ht, rfl, rfl, rfl, rfl, rfl, hb⟩ := hrel
    by_cases hlt : t < 64
    · have h64 : (t : Int) < 64 := by omega
      have hk := (hb.cell (p := ⟨w.heap.size, t, none⟩) hzW).trans (hSW.out t hlt)
      have hE : Md.rounds (Md.wordAt bs) (t + 1) s = Md.stp (Md.wordAt bs) t (Md.rounds (Md.wordAt bs) t s) := rfl
      generalize Md.rounds (Md.wordAt bs) t s = r at *
      obtain ⟨ra, rb, rc, rd⟩ := r
      have HE := Lib.hid hE
      clear hE
      obtain ⟨m4, hm4⟩ : ∃ m : Nat, m = t % 4 := ⟨_, rfl⟩
      have hm4' : m4 < 4 := by omega
      have e4 : (t : Int) % 4 = (m4 : Int) := by omega
      have HM := Lib.hid hm4
      clear hm4
      have hb2 : b2 < wr.heap.size := by
        have := World.block_lt_of_cell? w _ (K2.out 0 (by omega))
        have h1 := hbW.size
        have h2 := hb.size
        simp at this
        omega
      have hs2 : w.heap.size < wr.heap.size := by have := hb.size; omega
      have hs3 := hb.size
      have KR : ∀ j, j < 64 → wr.cell? ⟨b2, o2 + j, none⟩ = some (B (bs.getD j 0)) := fun j hj => by
        have hc := K2.out j (by omega)
        have h1 := World.block_lt_of_cell? w _ hc
        rw [hb.cell (p := ⟨b2, o2 + j, none⟩) (Nat.lt_of_lt_of_le h1 hbW.size), hbW.cell (p := ⟨b2, o2 + j, none⟩) h1]
        exact hc
      obtain ⟨x0, hx0', b0, b0', hx0⟩ := tab4 7 12 17 22 7 12 17 22 rfl rfl rfl rfl m4 hm4' (by omega) (by omega)
      have X0 := Lib.hid hx0'
      clear hx0'
      by_cases h16 : t < 16
      · have e16 : (t : Int) / 16 = 0 := by omega
        have p0 := KR (4 * t) (by omega)
        obtain ⟨y0, hy0⟩ : ∃ y, y = bs.getD (4 * t) 0 := ⟨_, rfl⟩
        rw [← hy0] at p0
        have Y0 := Lib.hid hy0
        clear hy0
        have z0 : y0.toNat < 256 := y0.toNat_lt
        have p1 := KR (4 * t + 1) (by omega)
        obtain ⟨y1, hy1⟩ : ∃ y, y = bs.getD (4 * t + 1) 0 := ⟨_, rfl⟩
        rw [← hy1] at p1
        have Y1 := Lib.hid hy1
        clear hy1
        have z1 : y1.toNat < 256 := y1.toNat_lt
        have p2 := KR (4 * t + 2) (by omega)
        obtain ⟨y2, hy2⟩ : ∃ y, y = bs.getD (4 * t + 2) 0 := ⟨_, rfl⟩
        rw [← hy2] at p2
        have Y2 := Lib.hid hy2
        clear hy2
        have z2 : y2.toNat < 256 := y2.toNat_lt
        have p3 := KR (4 * t + 3) (by omega)
        obtain ⟨y3, hy3⟩ : ∃ y, y = bs.getD (4 * t + 3) 0 := ⟨_, rfl⟩
        rw [← hy3] at p3
        have Y3 := Lib.hid hy3
        clear hy3
        have z3 : y3.toNat < 256 := y3.toNat_lt
        have l3 : 4 * (t : Int) + 3 < (bs.length : Int) := by omega
        clear KR
        go_wp2
        go_region
        go_wp2
        go_quiet (fail)
        go_wp2_with fail
        refine (left32_at (ra + (rb &&& rc ||| ~~~rb &&& rd) + Md.le32 y0 y1 y2 y3 + Md.kk t) x0 _ ?hz _ (by assumption) (by assumption)).mono ?_
        case hz =>
          rw [bits_max_w, bits_and_w, bits_and_w, bits_or_w, le32_int, w_add4]
        rintro e w9 ⟨rfl, hd9⟩
        have e : Md.rounds (Md.wordAt bs) (t + 1) s = ⟨rd, rb + Md.rotl (ra + (rb &&& rc ||| ~~~rb &&& rd) + Md.le32 y0 y1 y2 y3 + Md.kk t) x0, rb, rc⟩ := by
          rw [HE.out, stp_q0 (by omega), X0.out, HM.out, Y0.out, Y1.out, Y2.out, Y3.out]
          rfl
        have E9 := Lib.hid e
        clear e
        go_wp2
        go_roundw
        case rel =>
          refine ⟨t + 1, by omega, by go_num, ?_, ?_, ?_, ?_, ?_⟩
          · rw [E9.out]
          · rw [E9.out, w_add2]
          · rw [E9.out]
          · rw [E9.out]
          · exact ((hb.alloc hs3 _).trans (below_dr ⟨_, rfl⟩)).trans (below_dr hd9)
        case measure => simp [intOf]; omega
      · by_cases h32 : t < 32
        · have e16 : (t : Int) / 16 = 1 := by omega
          obtain ⟨G, hG⟩ : ∃ G : Nat, G = (5 * t + 1) % 16 := ⟨_, rfl⟩
          have hG16 : G < 16 := by omega
          have eG : (5 * (t : Int) + 1) % 16 = (G : Int) := by omega
          have HG := Lib.hid hG
          clear hG
          obtain ⟨x1, hx1', c0, c0', hx1⟩ := tab4 5 9 14 20 5 9 14 20 rfl rfl rfl rfl m4 hm4' (by omega) (by omega)
          have X1 := Lib.hid hx1'
          clear hx1'
          have p0 := KR (4 * G) (by omega)
          obtain ⟨y0, hy0⟩ : ∃ y, y = bs.getD (4 * G) 0 := ⟨_, rfl⟩
          rw [← hy0] at p0
          have Y0 := Lib.hid hy0
          clear hy0
          have z0 : y0.toNat < 256 := y0.toNat_lt
          have p1 := KR (4 * G + 1) (by omega)
          obtain ⟨y1, hy1⟩ : ∃ y, y = bs.getD (4 * G + 1) 0 := ⟨_, rfl⟩
          rw [← hy1] at p1
          have Y1 := Lib.hid hy1
          clear hy1
          have z1 : y1.toNat < 256 := y1.toNat_lt
          have p2 := KR (4 * G + 2) (by omega)
          obtain ⟨y2, hy2⟩ : ∃ y, y = bs.getD (4 * G + 2) 0 := ⟨_, rfl⟩
          rw [← hy2] at p2
          have Y2 := Lib.hid hy2
          clear hy2
          have z2 : y2.toNat < 256 := y2.toNat_lt
          have p3 := KR (4 * G + 3) (by omega)
          obtain ⟨y3, hy3⟩ : ∃ y, y = bs.getD (4 * G + 3) 0 := ⟨_, rfl⟩
          rw [← hy3] at p3
          have Y3 := Lib.hid hy3
          clear hy3
          have z3 : y3.toNat < 256 := y3.toNat_lt
          have l3 : 4 * (G : Int) + 3 < (bs.length : Int) := by omega
          clear KR
          go_wp2
          go_region
          go_wp2
          go_region
          go_wp2
          go_quiet (fail)
          go_wp2_with fail
          refine (left32_at (ra + (rb &&& rd ||| rc &&& ~~~rd) + Md.le32 y0 y1 y2 y3 + Md.kk t) x1 _ ?hz _ (by assumption) (by assumption)).mono ?_
          case hz =>
            rw [bits_and_w, bits_andNot_w, bits_or_w, le32_int, w_add4]
          rintro e w9 ⟨rfl, hd9⟩
          have e : Md.rounds (Md.wordAt bs) (t + 1) s = ⟨rd, rb + Md.rotl (ra + (rb &&& rd ||| rc &&& ~~~rd) + Md.le32 y0 y1 y2 y3 + Md.kk t) x1, rb, rc⟩ := by
            rw [HE.out, stp_q1 (by omega), X1.out, HM.out, Y0.out, Y1.out, Y2.out, Y3.out, HG.out]
            rfl
          have E9 := Lib.hid e
          clear e
          go_wp2
          go_roundw
          case rel =>
            refine ⟨t + 1, by omega, by go_num, ?_, ?_, ?_, ?_, ?_⟩
            · rw [E9.out]
            · rw [E9.out, w_add2]
            · rw [E9.out]
            · rw [E9.out]
            · exact (((hb.alloc hs3 _).alloc (by simp; omega) _).trans (below_dr ⟨_, rfl⟩)).trans (below_dr hd9)
          case measure => simp [intOf]; omega
        · by_cases h48 : t < 48
          · have e16 : (t : Int) / 16 = 2 := by omega
            obtain ⟨G, hG⟩ : ∃ G : Nat, G = (3 * t + 5) % 16 := ⟨_, rfl⟩
            have hG16 : G < 16 := by omega
            have eG : (3 * (t : Int) + 5) % 16 = (G : Int) := by omega
            have HG := Lib.hid hG
            clear hG
            obtain ⟨x2, hx2', c0, c0', hx2⟩ := tab4 4 11 16 23 4 11 16 23 rfl rfl rfl rfl m4 hm4' (by omega) (by omega)
            have X2 := Lib.hid hx2'
            clear hx2'
            have p0 := KR (4 * G) (by omega)
            obtain ⟨y0, hy0⟩ : ∃ y, y = bs.getD (4 * G) 0 := ⟨_, rfl⟩
            rw [← hy0] at p0
            have Y0 := Lib.hid hy0
            clear hy0
            have z0 : y0.toNat < 256 := y0.toNat_lt
            have p1 := KR (4 * G + 1) (by omega)
            obtain ⟨y1, hy1⟩ : ∃ y, y = bs.getD (4 * G + 1) 0 := ⟨_, rfl⟩
            rw [← hy1] at p1
            have Y1 := Lib.hid hy1
            clear hy1
            have z1 : y1.toNat < 256 := y1.toNat_lt
            have p2 := KR (4 * G + 2) (by omega)
            obtain ⟨y2, hy2⟩ : ∃ y, y = bs.getD (4 * G + 2) 0 := ⟨_, rfl⟩
            rw [← hy2] at p2
            have Y2 := Lib.hid hy2
            clear hy2
            have z2 : y2.toNat < 256 := y2.toNat_lt
            have p3 := KR (4 * G + 3) (by omega)
            obtain ⟨y3, hy3⟩ : ∃ y, y = bs.getD (4 * G + 3) 0 := ⟨_, rfl⟩
            rw [← hy3] at p3
            have Y3 := Lib.hid hy3
            clear hy3
            have z3 : y3.toNat < 256 := y3.toNat_lt
            have l3 : 4 * (G : Int) + 3 < (bs.length : Int) := by omega
            clear KR
            go_wp2
            go_region
            go_wp2
            go_region
            go_wp2
            go_quiet (fail)
            go_wp2_with fail
            refine (left32_at (ra + (rb ^^^ rc ^^^ rd) + Md.le32 y0 y1 y2 y3 + Md.kk t) x2 _ ?hz _ (by assumption) (by assumption)).mono ?_
            case hz =>
              rw [bits_xor_w, bits_xor_w, le32_int, w_add4]
            rintro e w9 ⟨rfl, hd9⟩
            have e : Md.rounds (Md.wordAt bs) (t + 1) s = ⟨rd, rb + Md.rotl (ra + (rb ^^^ rc ^^^ rd) + Md.le32 y0 y1 y2 y3 + Md.kk t) x2, rb, rc⟩ := by
              rw [HE.out, stp_q2 (by omega), X2.out, HM.out, Y0.out, Y1.out, Y2.out, Y3.out, HG.out]
              rfl
            have E9 := Lib.hid e
            clear e
            go_wp2
            go_roundw
            case rel =>
              refine ⟨t + 1, by omega, by go_num, ?_, ?_, ?_, ?_, ?_⟩
              · rw [E9.out]
              · rw [E9.out, w_add2]
              · rw [E9.out]
              · rw [E9.out]
              · exact (((hb.alloc hs3 _).alloc (by simp; omega) _).trans (below_dr ⟨_, rfl⟩)).trans (below_dr hd9)
            case measure => simp [intOf]; omega
          · have e16 : (t : Int) / 16 = 3 := by omega
            obtain ⟨G, hG⟩ : ∃ G : Nat, G = 7 * t % 16 := ⟨_, rfl⟩
            have hG16 : G < 16 := by omega
            have eG : 7 * (t : Int) % 16 = (G : Int) := by omega
            have HG := Lib.hid hG
            clear hG
            obtain ⟨x3, hx3', c0, c0', hx3⟩ := tab4 6 10 15 21 6 10 15 21 rfl rfl rfl rfl m4 hm4' (by omega) (by omega)
            have X3 := Lib.hid hx3'
            clear hx3'
            have p0 := KR (4 * G) (by omega)
            obtain ⟨y0, hy0⟩ : ∃ y, y = bs.getD (4 * G) 0 := ⟨_, rfl⟩
            rw [← hy0] at p0
            have Y0 := Lib.hid hy0
            clear hy0
            have z0 : y0.toNat < 256 := y0.toNat_lt
            have p1 := KR (4 * G + 1) (by omega)
            obtain ⟨y1, hy1⟩ : ∃ y, y = bs.getD (4 * G + 1) 0 := ⟨_, rfl⟩
            rw [← hy1] at p1
            have Y1 := Lib.hid hy1
            clear hy1
            have z1 : y1.toNat < 256 := y1.toNat_lt
            have p2 := KR (4 * G + 2) (by omega)
            obtain ⟨y2, hy2⟩ : ∃ y, y = bs.getD (4 * G + 2) 0 := ⟨_, rfl⟩
            rw [← hy2] at p2
            have Y2 := Lib.hid hy2
            clear hy2
            have z2 : y2.toNat < 256 := y2.toNat_lt
            have p3 := KR (4 * G + 3) (by omega)
            obtain ⟨y3, hy3⟩ : ∃ y, y = bs.getD (4 * G + 3) 0 := ⟨_, rfl⟩
            rw [← hy3] at p3
            have Y3 := Lib.hid hy3
            clear hy3
            have z3 : y3.toNat < 256 := y3.toNat_lt
            have l3 : 4 * (G : Int) + 3 < (bs.length : Int) := by omega
            clear KR
            go_wp2
            go_region
            go_wp2
            go_region
            go_wp2
            go_quiet (fail)
            go_wp2_with fail
            refine (left32_at (ra + (rc ^^^ (rb ||| ~~~rd)) + Md.le32 y0 y1 y2 y3 + Md.kk t) x3 _ ?hz _ (by assumption) (by assumption)).mono ?_
            case hz =>
              rw [bits_max_w, bits_or_w, bits_xor_w, le32_int, w_add4]
            rintro e w9 ⟨rfl, hd9⟩
            have e : Md.rounds (Md.wordAt bs) (t + 1) s = ⟨rd, rb + Md.rotl (ra + (rc ^^^ (rb ||| ~~~rd)) + Md.le32 y0 y1 y2 y3 + Md.kk t) x3, rb, rc⟩ := by
              rw [HE.out, stp_q3 (by omega), X3.out, HM.out, Y0.out, Y1.out, Y2.out, Y3.out, HG.out]
              rfl
            have E9 := Lib.hid e
            clear e
            go_wp2
            go_roundw
            case rel =>
              refine ⟨t + 1, by omega, by go_num, ?_, ?_, ?_, ?_, ?_⟩
              · rw [E9.out]
              · rw [E9.out, w_add2]
              · rw [E9.out]
              · rw [E9.out]
              · exact (((hb.alloc hs3 _).alloc (by simp; omega) _).trans (below_dr ⟨_, rfl⟩)).trans (below_dr hd9)
            case measure => simp [intOf]; omega
    · obtain rfl : t = 64 := by omega
      have hk1 : ∀ (k : Nat) (u : Value), w.cell? ⟨b1, k, none⟩ = some u → wr.cell? ⟨b1, k, none⟩ = some u := fun k u hc => by
        have h1 := World.block_lt_of_cell? w _ hc
        rw [hb.cell (p := ⟨b1, k, none⟩) (Nat.lt_of_lt_of_le h1 hbW.size), hbW.cell (p := ⟨b1, k, none⟩) h1]
        exact hc
      have qa := hk1 _ _ ca
      have qb := hk1 _ _ cb
      have qc := hk1 _ _ cc
      have qd := hk1 _ _ cd
      have HE := Lib.hid (show Md.blk s bs = Md.addS s (Md.rounds (Md.wordAt bs) 64 s) from rfl)
      generalize Md.rounds (Md.wordAt bs) 64 s = r at *
      obtain ⟨ra, rb, rc, rd⟩ := r
      have hs3 := hb.size
      have hs4 := hbW.size
      clear ca cb cc cd hk1 K2 hSW
      go_wp2
      go_region
      all_goals go_wp2
      all_goals go_ret
      refine ⟨_, rfl, ⟨some ⟨wr.heap.size, 0, none⟩, 4, rfl, Nat.le_refl _, by unfold maxLen; omega, fun _ => ⟨wr.heap.size, 0, rfl, ?_⟩⟩, ?_⟩
      · intro j hj
        rw [Nat.zero_add]
        have hj : j < 4 := hj
        rw [HE.out]
        refine Eq.trans (World.cell?_alloc_at _ _ _ _ rfl) ?_
        match j, hj with
        | 0, _ => exact congrArg some (val_int (w_add2 _ _))
        | 1, _ => exact congrArg some (val_int (w_add2 _ _))
        | 2, _ => exact congrArg some (val_int (w_add2 _ _))
        | 3, _ => exact congrArg some (val_int (w_add2 _ _))
      · exact ((hbW.trans (hb.mono hs4)).alloc (by omega) _).trans (below_dr ⟨1, rfl⟩)
end Go.Proofs.Ytkjapcmnopnblaa
