/- The body of the loop of md5.blockGeneric: what one round of the loop does to the slots: 16 words are read, 64 rounds done, the saved state added. The frame has 1058 slots and is never written out. -/
import Derived.Test.YtkjapcmnopnblaaLe
namespace Go.Proofs.Ytkjapcmnopnblaa
open Go.RowKit
set_option linter.unusedVariables false
set_option linter.unusedSimpArgs false

/-- A world that has drawn, and no more. -/
def Dr (w w' : World) : Prop := ∃ n, w' = w.drewN n
theorem Dr.refl (w : World) : Dr w w := ⟨0, rfl⟩
theorem Dr.trans {a b c : World} (h : Dr a b) (k : Dr b c) : Dr a c := by
  obtain ⟨n, rfl⟩ := h
  obtain ⟨m, rfl⟩ := k
  exact ⟨n + m, by rw [World.drewN_drewN]⟩
theorem Dr.cell {w w' : World} (h : Dr w w') (x : Addr) : w'.cell? x = w.cell? x := by
  obtain ⟨n, rfl⟩ := h
  rfl

/-- The frame at the head of the loop: the digest's address, the bytes, the count, the four words. -/
structure Bd0 (g : Nat) (pv : Value) (i : Int) (s : Md.St) (a : Act) : Prop where
  size : a.tmps.size = 1058
  defers : a.defers = []
  d : a.eval (.tmp 0) = .pointer (some ⟨g, 0, none⟩)
  p : a.eval (.tmp 1) = pv
  i : a.eval (.tmp 8) = .int .i64 i
  ra : a.eval (.tmp 4) = U s.a
  rb : a.eval (.tmp 5) = U s.b
  rc : a.eval (.tmp 6) = U s.c
  rd : a.eval (.tmp 7) = U s.d

/-- The frame inside a round of the loop: besides, the block, the saved words and the first 'nx' words of the block; the four words lie in the slots sa, sb, sc, sd. -/
structure Bd (g : Nat) (pv qv : Value) (i : Int) (sv : Md.St) (X : Nat → Md.W) (nx : Nat) (s : Md.St) (sa sb sc sd : Nat) (a : Act) : Prop where
  size : a.tmps.size = 1058
  defers : a.defers = []
  d : a.eval (.tmp 0) = .pointer (some ⟨g, 0, none⟩)
  p : a.eval (.tmp 1) = pv
  i : a.eval (.tmp 8) = .int .i64 i
  q : a.eval (.tmp 9) = qv
  va : a.eval (.tmp 10) = U sv.a
  vb : a.eval (.tmp 11) = U sv.b
  vc : a.eval (.tmp 12) = U sv.c
  vd : a.eval (.tmp 13) = U sv.d
  x : ∀ j, j < nx → a.eval (.tmp (14 + j)) = U (X j)
  ra : a.eval (.tmp sa) = U s.a
  rb : a.eval (.tmp sb) = U s.b
  rc : a.eval (.tmp sc) = U s.c
  rd : a.eval (.tmp sd) = U s.d

section
variable {g : Nat} {pv qv : Value} {i : Int} {sv : Md.St} {X : Nat → Md.W} {nx : Nat} {s : Md.St} {sa sb sc sd : Nat} {a a' : Act}
theorem Bd.upd {v : Md.W} (h : Bd g pv qv i sv X nx s sa sb sc sd a) (hu : Upd a sa (U v) a') (hn : nx ≤ 16) (la : 4 ≤ sa) (la' : sa < 8) (lb : sb < 8) (lc : sc < 8) (ld : sd < 8) (nb : sb ≠ sa) (nc : sc ≠ sa) (nd : sd ≠ sa) :
    Bd g pv qv i sv X nx ⟨s.d, v, s.b, s.c⟩ sd sa sb sc a' where
  size := hu.size.trans h.size
  defers := hu.defers.trans h.defers
  d := (hu.else_ 0 (by omega) (by omega)).trans h.d
  p := (hu.else_ 1 (by omega) (by omega)).trans h.p
  i := (hu.else_ 8 (by omega) (by omega)).trans h.i
  q := (hu.else_ 9 (by omega) (by omega)).trans h.q
  va := (hu.else_ 10 (by omega) (by omega)).trans h.va
  vb := (hu.else_ 11 (by omega) (by omega)).trans h.vb
  vc := (hu.else_ 12 (by omega) (by omega)).trans h.vc
  vd := (hu.else_ 13 (by omega) (by omega)).trans h.vd
  x := fun j hj => (hu.else_ (14 + j) (by omega) (by omega)).trans (h.x j hj)
  ra := (hu.else_ sd (by omega) nd).trans h.rd
  rb := hu.here
  rc := (hu.else_ sb (by omega) nb).trans h.rb
  rd := (hu.else_ sc (by omega) nc).trans h.rc
/-- One word of the block more. -/
theorem Bd.word (h : Bd g pv qv i sv X nx s 4 5 6 7 a) (hu : Upd a (14 + nx) (U (X nx)) a') (hn : nx < 16) : Bd g pv qv i sv X (nx + 1) s 4 5 6 7 a' where
  size := hu.size.trans h.size
  defers := hu.defers.trans h.defers
  d := (hu.else_ 0 (by omega) (by omega)).trans h.d
  p := (hu.else_ 1 (by omega) (by omega)).trans h.p
  i := (hu.else_ 8 (by omega) (by omega)).trans h.i
  q := (hu.else_ 9 (by omega) (by omega)).trans h.q
  va := (hu.else_ 10 (by omega) (by omega)).trans h.va
  vb := (hu.else_ 11 (by omega) (by omega)).trans h.vb
  vc := (hu.else_ 12 (by omega) (by omega)).trans h.vc
  vd := (hu.else_ 13 (by omega) (by omega)).trans h.vd
  x := fun j hj => by
    by_cases e : j = nx
    · subst e; exact hu.here
    · exact (hu.else_ (14 + j) (by omega) (by omega)).trans (h.x j (by omega))
  ra := (hu.else_ 4 (by omega) (by omega)).trans h.ra
  rb := (hu.else_ 5 (by omega) (by omega)).trans h.rb
  rc := (hu.else_ 6 (by omega) (by omega)).trans h.rc
  rd := (hu.else_ 7 (by omega) (by omega)).trans h.rd
end

theorem hb58 : Try.f58.body.isNone = false := by kernel_rfl
theorem hn58 : (Try.f58.name == "runtime.NumGoroutine") = false := by kernel_rfl
theorem hb57 : Try.f57.body.isNone = false := by kernel_rfl
theorem hn57 : (Try.f57.name == "runtime.NumGoroutine") = false := by kernel_rfl
theorem rots : Rots Try.prog 58 := fun x k w h1 h2 => rot_any x k w h1 h2

/-- What a round's numbers must be. -/
def okRd (q t m sa sb sc sd sx : Nat) (nk sh : Int) : Bool :=
  t / 16 == q && 30 ≤ m && m + 20 ≤ 1058 && 4 ≤ sa && sa < 8 && sb < 8 && sc < 8 && sd < 8 && sb != sa && sc != sa && sd != sa && sx == 14 + Md.gg t && Md.gg t < 16 &&
  nk == ((Md.kk t).toNat : Int) && sh == (Md.ss t : Int) && 1 ≤ Md.ss t && Md.ss t ≤ 31

section
variable {w : World} {Q : Exit → Act → World → Prop} {a : Act} {y : Code} {id : Nat}
variable {g : Nat} {pv qv : Value} {i : Int} {sv : Md.St} {X : Nat → Md.W} {sa sb sc sd sx : Nat}

theorem rc1 (t m : Nat) {nk sh : Int} (hc : okRd 0 t m sa sb sc sd sx nk sh = true)
    {ty0 : TypeId} {po0 : String} {af0 : Array Edge} {ty1 : TypeId} {po1 : String} {af1 : Array Edge} {ty2 : TypeId} {po2 : String} {af2 : Array Edge} {ty3 : TypeId} {po3 : String} {af3 : Array Edge}
    {t3 u3 : TypeId} {ty4 : TypeId} {po4 : String} {af4 : Array Edge} {ty5 : TypeId} {po5 : String} {af5 : Array Edge} {t5 u5 : TypeId}
    {ty6 : TypeId} {po6 : String} {af6 : Array Edge} {ty7 : TypeId} {po7 : String} {af7 : Array Edge} {t7 u7 : TypeId} {ty8 : TypeId} {po8 : String} {af8 : Array Edge}
    {ty9 : TypeId} {po9 : String} {af9 : Array Edge} {t9 u9 : TypeId} {ty10 : TypeId} {po10 : String} {af10 : Array Edge} {ty11 : TypeId} {po11 : String} {af11 : Array Edge}
    {t11 u11 : TypeId} {ty12 : TypeId} {po12 : String} {af12 : Array Edge} {t12 u12 : TypeId} {ty13 : TypeId} {po13 : String} {af13 : Array Edge}
    {ats : Array TypeId} {ty14 : TypeId} {po14 : String} {af14 : Array Edge} {t14 u14 : TypeId} {ty15 : TypeId} {po15 : String} {af15 : Array Edge}
    (hI : Bd g pv qv i sv X 16 (Md.rounds X t sv) sa sb sc sd a)
    (H : ∀ a', Bd g pv qv i sv X 16 (Md.rounds X (t + 1) sv) sd sa sb sc a' → y.wp Try.prog Q a' w) :
    (Code.seq (Code.region id #[{ dst := some (m), op := .move (.tmp sb), type := ty0, pos := po0, after := af0, guard := none },
      { dst := some (m + 1), op := .move (.tmp sc), type := ty1, pos := po1, after := af1, guard := none },
      { dst := some (m + 2), op := .move (.tmp sd), type := ty2, pos := po2, after := af2, guard := none },
      { dst := some (m + 3), op := .binOp .xor t3 (.tmp (m + 1)) (.tmp (m + 2)) u3, type := ty3, pos := po3, after := af3, guard := none },
      { dst := some (m + 4), op := .move (.tmp sb), type := ty4, pos := po4, after := af4, guard := none },
      { dst := some (m + 5), op := .binOp .and t5 (.tmp (m + 3)) (.tmp (m + 4)) u5, type := ty5, pos := po5, after := af5, guard := none },
      { dst := some (m + 6), op := .move (.tmp sd), type := ty6, pos := po6, after := af6, guard := none },
      { dst := some (m + 7), op := .binOp .xor t7 (.tmp (m + 5)) (.tmp (m + 6)) u7, type := ty7, pos := po7, after := af7, guard := none },
      { dst := some (m + 8), op := .move (.tmp sa), type := ty8, pos := po8, after := af8, guard := none },
      { dst := some (m + 9), op := .binOp .add t9 (.tmp (m + 7)) (.tmp (m + 8)) u9, type := ty9, pos := po9, after := af9, guard := none },
      { dst := some (m + 10), op := .move (.tmp sx), type := ty10, pos := po10, after := af10, guard := none },
      { dst := some (m + 11), op := .binOp .add t11 (.tmp (m + 9)) (.tmp (m + 10)) u11, type := ty11, pos := po11, after := af11, guard := none },
      { dst := some (m + 12), op := .binOp .add t12 (.tmp (m + 11)) (.const (.int .u32 nk)) u12, type := ty12, pos := po12, after := af12, guard := none },
      { dst := some (m + 13), op := .call { callee := .value (.func 58), args := #[(.tmp (m + 12)), .const (.int .i64 sh)], argTypes := ats }, type := ty13, pos := po13, after := af13, guard := none },
      { dst := some (m + 14), op := .binOp .add t14 (.tmp m) (.tmp (m + 13)) u14, type := ty14, pos := po14, after := af14, guard := none },
      { dst := some (sa), op := .assign (.tmp (m + 14)), type := ty15, pos := po15, after := af15, guard := none }] false) y).wp Try.prog Q a w := by
  simp only [okRd, Bool.and_eq_true, decide_eq_true_eq, beq_iff_eq, bne_iff_ne, ne_eq] at hc
  obtain ⟨⟨⟨⟨⟨⟨⟨⟨⟨⟨⟨⟨⟨⟨⟨⟨h0, h1⟩, h2⟩, h3⟩, h4⟩, h5⟩, h6⟩, h7⟩, h8⟩, h9⟩, h10⟩, h11⟩, h12⟩, h13⟩, h14⟩, h15⟩, h16⟩ := hc
  refine wp_seq (wp_region_lit ?_)
  refine rd1 m h1 (by rw [hI.size]; exact h2) sa sb sc sd sx (by omega) (by omega) (by omega) (by omega) (by omega) hI.ra hI.rb hI.rc hI.rd
    (by rw [h11]; exact hI.x _ h12) Try.func58 hb58 hn58 rots (Md.kk t) (Md.ss t) h13 h14 h15 h16 (fun a' hu => H a' ?_)
  have hb := hI.upd hu (Nat.le_refl _) h3 h4 h5 h6 h7 h8 h9 h10
  have e : Md.rounds X (t + 1) sv = Md.stp X t (Md.rounds X t sv) := rfl
  rw [e]
  unfold Md.stp Md.ff
  rw [h0]
  generalize Md.rounds X t sv = r at *
  simp only [← Md.f1]
  rw [BitVec.add_comm r.a]
  exact hb

theorem rc2 (t m : Nat) {nk sh : Int} (hc : okRd 1 t m sa sb sc sd sx nk sh = true)
    {ty0 : TypeId} {po0 : String} {af0 : Array Edge} {ty1 : TypeId} {po1 : String} {af1 : Array Edge} {ty2 : TypeId} {po2 : String} {af2 : Array Edge} {ty3 : TypeId} {po3 : String} {af3 : Array Edge}
    {t3 u3 : TypeId} {ty4 : TypeId} {po4 : String} {af4 : Array Edge} {ty5 : TypeId} {po5 : String} {af5 : Array Edge} {t5 u5 : TypeId}
    {ty6 : TypeId} {po6 : String} {af6 : Array Edge} {ty7 : TypeId} {po7 : String} {af7 : Array Edge} {t7 u7 : TypeId} {ty8 : TypeId} {po8 : String} {af8 : Array Edge}
    {ty9 : TypeId} {po9 : String} {af9 : Array Edge} {t9 u9 : TypeId} {ty10 : TypeId} {po10 : String} {af10 : Array Edge} {ty11 : TypeId} {po11 : String} {af11 : Array Edge}
    {t11 u11 : TypeId} {ty12 : TypeId} {po12 : String} {af12 : Array Edge} {t12 u12 : TypeId} {ty13 : TypeId} {po13 : String} {af13 : Array Edge}
    {ats : Array TypeId} {ty14 : TypeId} {po14 : String} {af14 : Array Edge} {t14 u14 : TypeId} {ty15 : TypeId} {po15 : String} {af15 : Array Edge}
    (hI : Bd g pv qv i sv X 16 (Md.rounds X t sv) sa sb sc sd a)
    (H : ∀ a', Bd g pv qv i sv X 16 (Md.rounds X (t + 1) sv) sd sa sb sc a' → y.wp Try.prog Q a' w) :
    (Code.seq (Code.region id #[{ dst := some (m), op := .move (.tmp sb), type := ty0, pos := po0, after := af0, guard := none },
      { dst := some (m + 1), op := .move (.tmp sb), type := ty1, pos := po1, after := af1, guard := none },
      { dst := some (m + 2), op := .move (.tmp sc), type := ty2, pos := po2, after := af2, guard := none },
      { dst := some (m + 3), op := .binOp .xor t3 (.tmp (m + 1)) (.tmp (m + 2)) u3, type := ty3, pos := po3, after := af3, guard := none },
      { dst := some (m + 4), op := .move (.tmp sd), type := ty4, pos := po4, after := af4, guard := none },
      { dst := some (m + 5), op := .binOp .and t5 (.tmp (m + 3)) (.tmp (m + 4)) u5, type := ty5, pos := po5, after := af5, guard := none },
      { dst := some (m + 6), op := .move (.tmp sc), type := ty6, pos := po6, after := af6, guard := none },
      { dst := some (m + 7), op := .binOp .xor t7 (.tmp (m + 5)) (.tmp (m + 6)) u7, type := ty7, pos := po7, after := af7, guard := none },
      { dst := some (m + 8), op := .move (.tmp sa), type := ty8, pos := po8, after := af8, guard := none },
      { dst := some (m + 9), op := .binOp .add t9 (.tmp (m + 7)) (.tmp (m + 8)) u9, type := ty9, pos := po9, after := af9, guard := none },
      { dst := some (m + 10), op := .move (.tmp sx), type := ty10, pos := po10, after := af10, guard := none },
      { dst := some (m + 11), op := .binOp .add t11 (.tmp (m + 9)) (.tmp (m + 10)) u11, type := ty11, pos := po11, after := af11, guard := none },
      { dst := some (m + 12), op := .binOp .add t12 (.tmp (m + 11)) (.const (.int .u32 nk)) u12, type := ty12, pos := po12, after := af12, guard := none },
      { dst := some (m + 13), op := .call { callee := .value (.func 58), args := #[(.tmp (m + 12)), .const (.int .i64 sh)], argTypes := ats }, type := ty13, pos := po13, after := af13, guard := none },
      { dst := some (m + 14), op := .binOp .add t14 (.tmp m) (.tmp (m + 13)) u14, type := ty14, pos := po14, after := af14, guard := none },
      { dst := some (sa), op := .assign (.tmp (m + 14)), type := ty15, pos := po15, after := af15, guard := none }] false) y).wp Try.prog Q a w := by
  simp only [okRd, Bool.and_eq_true, decide_eq_true_eq, beq_iff_eq, bne_iff_ne, ne_eq] at hc
  obtain ⟨⟨⟨⟨⟨⟨⟨⟨⟨⟨⟨⟨⟨⟨⟨⟨h0, h1⟩, h2⟩, h3⟩, h4⟩, h5⟩, h6⟩, h7⟩, h8⟩, h9⟩, h10⟩, h11⟩, h12⟩, h13⟩, h14⟩, h15⟩, h16⟩ := hc
  refine wp_seq (wp_region_lit ?_)
  refine rd2 m h1 (by rw [hI.size]; exact h2) sa sb sc sd sx (by omega) (by omega) (by omega) (by omega) (by omega) hI.ra hI.rb hI.rc hI.rd
    (by rw [h11]; exact hI.x _ h12) Try.func58 hb58 hn58 rots (Md.kk t) (Md.ss t) h13 h14 h15 h16 (fun a' hu => H a' ?_)
  have hb := hI.upd hu (Nat.le_refl _) h3 h4 h5 h6 h7 h8 h9 h10
  have e : Md.rounds X (t + 1) sv = Md.stp X t (Md.rounds X t sv) := rfl
  rw [e]
  unfold Md.stp Md.ff
  rw [h0]
  generalize Md.rounds X t sv = r at *
  simp only [← Md.f2]
  rw [BitVec.add_comm r.a]
  exact hb

theorem rc3 (t m : Nat) {nk sh : Int} (hc : okRd 2 t m sa sb sc sd sx nk sh = true)
    {ty0 : TypeId} {po0 : String} {af0 : Array Edge} {ty1 : TypeId} {po1 : String} {af1 : Array Edge} {ty2 : TypeId} {po2 : String} {af2 : Array Edge} {ty3 : TypeId} {po3 : String} {af3 : Array Edge}
    {t3 u3 : TypeId} {ty4 : TypeId} {po4 : String} {af4 : Array Edge} {ty5 : TypeId} {po5 : String} {af5 : Array Edge} {t5 u5 : TypeId}
    {ty6 : TypeId} {po6 : String} {af6 : Array Edge} {ty7 : TypeId} {po7 : String} {af7 : Array Edge} {t7 u7 : TypeId} {ty8 : TypeId} {po8 : String} {af8 : Array Edge}
    {ty9 : TypeId} {po9 : String} {af9 : Array Edge} {t9 u9 : TypeId} {ty10 : TypeId} {po10 : String} {af10 : Array Edge} {t10 u10 : TypeId}
    {ty11 : TypeId} {po11 : String} {af11 : Array Edge} {ats : Array TypeId} {ty12 : TypeId} {po12 : String} {af12 : Array Edge} {t12 u12 : TypeId}
    {ty13 : TypeId} {po13 : String} {af13 : Array Edge}
    (hI : Bd g pv qv i sv X 16 (Md.rounds X t sv) sa sb sc sd a)
    (H : ∀ a', Bd g pv qv i sv X 16 (Md.rounds X (t + 1) sv) sd sa sb sc a' → y.wp Try.prog Q a' w) :
    (Code.seq (Code.region id #[{ dst := some (m), op := .move (.tmp sb), type := ty0, pos := po0, after := af0, guard := none },
      { dst := some (m + 1), op := .move (.tmp sb), type := ty1, pos := po1, after := af1, guard := none },
      { dst := some (m + 2), op := .move (.tmp sc), type := ty2, pos := po2, after := af2, guard := none },
      { dst := some (m + 3), op := .binOp .xor t3 (.tmp (m + 1)) (.tmp (m + 2)) u3, type := ty3, pos := po3, after := af3, guard := none },
      { dst := some (m + 4), op := .move (.tmp sd), type := ty4, pos := po4, after := af4, guard := none },
      { dst := some (m + 5), op := .binOp .xor t5 (.tmp (m + 3)) (.tmp (m + 4)) u5, type := ty5, pos := po5, after := af5, guard := none },
      { dst := some (m + 6), op := .move (.tmp sa), type := ty6, pos := po6, after := af6, guard := none },
      { dst := some (m + 7), op := .binOp .add t7 (.tmp (m + 5)) (.tmp (m + 6)) u7, type := ty7, pos := po7, after := af7, guard := none },
      { dst := some (m + 8), op := .move (.tmp sx), type := ty8, pos := po8, after := af8, guard := none },
      { dst := some (m + 9), op := .binOp .add t9 (.tmp (m + 7)) (.tmp (m + 8)) u9, type := ty9, pos := po9, after := af9, guard := none },
      { dst := some (m + 10), op := .binOp .add t10 (.tmp (m + 9)) (.const (.int .u32 nk)) u10, type := ty10, pos := po10, after := af10, guard := none },
      { dst := some (m + 11), op := .call { callee := .value (.func 58), args := #[(.tmp (m + 10)), .const (.int .i64 sh)], argTypes := ats }, type := ty11, pos := po11, after := af11, guard := none },
      { dst := some (m + 12), op := .binOp .add t12 (.tmp m) (.tmp (m + 11)) u12, type := ty12, pos := po12, after := af12, guard := none },
      { dst := some (sa), op := .assign (.tmp (m + 12)), type := ty13, pos := po13, after := af13, guard := none }] false) y).wp Try.prog Q a w := by
  simp only [okRd, Bool.and_eq_true, decide_eq_true_eq, beq_iff_eq, bne_iff_ne, ne_eq] at hc
  obtain ⟨⟨⟨⟨⟨⟨⟨⟨⟨⟨⟨⟨⟨⟨⟨⟨h0, h1⟩, h2⟩, h3⟩, h4⟩, h5⟩, h6⟩, h7⟩, h8⟩, h9⟩, h10⟩, h11⟩, h12⟩, h13⟩, h14⟩, h15⟩, h16⟩ := hc
  refine wp_seq (wp_region_lit ?_)
  refine rd3 m h1 (by rw [hI.size]; exact h2) sa sb sc sd sx (by omega) (by omega) (by omega) (by omega) (by omega) hI.ra hI.rb hI.rc hI.rd
    (by rw [h11]; exact hI.x _ h12) Try.func58 hb58 hn58 rots (Md.kk t) (Md.ss t) h13 h14 h15 h16 (fun a' hu => H a' ?_)
  have hb := hI.upd hu (Nat.le_refl _) h3 h4 h5 h6 h7 h8 h9 h10
  have e : Md.rounds X (t + 1) sv = Md.stp X t (Md.rounds X t sv) := rfl
  rw [e]
  unfold Md.stp Md.ff
  rw [h0]
  generalize Md.rounds X t sv = r at *
  simp only []
  rw [BitVec.add_comm r.a]
  exact hb

theorem rc4 (t m : Nat) {nk sh : Int} (hc : okRd 3 t m sa sb sc sd sx nk sh = true)
    {ty0 : TypeId} {po0 : String} {af0 : Array Edge} {ty1 : TypeId} {po1 : String} {af1 : Array Edge} {ty2 : TypeId} {po2 : String} {af2 : Array Edge} {ty3 : TypeId} {po3 : String} {af3 : Array Edge}
    {ty4 : TypeId} {po4 : String} {af4 : Array Edge} {t4 : TypeId} {ty5 : TypeId} {po5 : String} {af5 : Array Edge} {t5 u5 : TypeId}
    {ty6 : TypeId} {po6 : String} {af6 : Array Edge} {t6 u6 : TypeId} {ty7 : TypeId} {po7 : String} {af7 : Array Edge} {ty8 : TypeId} {po8 : String} {af8 : Array Edge}
    {t8 u8 : TypeId} {ty9 : TypeId} {po9 : String} {af9 : Array Edge} {ty10 : TypeId} {po10 : String} {af10 : Array Edge} {t10 u10 : TypeId}
    {ty11 : TypeId} {po11 : String} {af11 : Array Edge} {t11 u11 : TypeId} {ty12 : TypeId} {po12 : String} {af12 : Array Edge} {ats : Array TypeId}
    {ty13 : TypeId} {po13 : String} {af13 : Array Edge} {t13 u13 : TypeId} {ty14 : TypeId} {po14 : String} {af14 : Array Edge}
    (hI : Bd g pv qv i sv X 16 (Md.rounds X t sv) sa sb sc sd a)
    (H : ∀ a', Bd g pv qv i sv X 16 (Md.rounds X (t + 1) sv) sd sa sb sc a' → y.wp Try.prog Q a' w) :
    (Code.seq (Code.region id #[{ dst := some (m), op := .move (.tmp sb), type := ty0, pos := po0, after := af0, guard := none },
      { dst := some (m + 1), op := .move (.tmp sc), type := ty1, pos := po1, after := af1, guard := none },
      { dst := some (m + 2), op := .move (.tmp sb), type := ty2, pos := po2, after := af2, guard := none },
      { dst := some (m + 3), op := .move (.tmp sd), type := ty3, pos := po3, after := af3, guard := none },
      { dst := some (m + 4), op := .unOp .xor t4 (.tmp (m + 3)), type := ty4, pos := po4, after := af4, guard := none },
      { dst := some (m + 5), op := .binOp .or t5 (.tmp (m + 2)) (.tmp (m + 4)) u5, type := ty5, pos := po5, after := af5, guard := none },
      { dst := some (m + 6), op := .binOp .xor t6 (.tmp (m + 1)) (.tmp (m + 5)) u6, type := ty6, pos := po6, after := af6, guard := none },
      { dst := some (m + 7), op := .move (.tmp sa), type := ty7, pos := po7, after := af7, guard := none },
      { dst := some (m + 8), op := .binOp .add t8 (.tmp (m + 6)) (.tmp (m + 7)) u8, type := ty8, pos := po8, after := af8, guard := none },
      { dst := some (m + 9), op := .move (.tmp sx), type := ty9, pos := po9, after := af9, guard := none },
      { dst := some (m + 10), op := .binOp .add t10 (.tmp (m + 8)) (.tmp (m + 9)) u10, type := ty10, pos := po10, after := af10, guard := none },
      { dst := some (m + 11), op := .binOp .add t11 (.tmp (m + 10)) (.const (.int .u32 nk)) u11, type := ty11, pos := po11, after := af11, guard := none },
      { dst := some (m + 12), op := .call { callee := .value (.func 58), args := #[(.tmp (m + 11)), .const (.int .i64 sh)], argTypes := ats }, type := ty12, pos := po12, after := af12, guard := none },
      { dst := some (m + 13), op := .binOp .add t13 (.tmp m) (.tmp (m + 12)) u13, type := ty13, pos := po13, after := af13, guard := none },
      { dst := some (sa), op := .assign (.tmp (m + 13)), type := ty14, pos := po14, after := af14, guard := none }] false) y).wp Try.prog Q a w := by
  simp only [okRd, Bool.and_eq_true, decide_eq_true_eq, beq_iff_eq, bne_iff_ne, ne_eq] at hc
  obtain ⟨⟨⟨⟨⟨⟨⟨⟨⟨⟨⟨⟨⟨⟨⟨⟨h0, h1⟩, h2⟩, h3⟩, h4⟩, h5⟩, h6⟩, h7⟩, h8⟩, h9⟩, h10⟩, h11⟩, h12⟩, h13⟩, h14⟩, h15⟩, h16⟩ := hc
  refine wp_seq (wp_region_lit ?_)
  refine rd4 m h1 (by rw [hI.size]; exact h2) sa sb sc sd sx (by omega) (by omega) (by omega) (by omega) (by omega) hI.ra hI.rb hI.rc hI.rd
    (by rw [h11]; exact hI.x _ h12) Try.func58 hb58 hn58 rots (Md.kk t) (Md.ss t) h13 h14 h15 h16 (fun a' hu => H a' ?_)
  have hb := hI.upd hu (Nat.le_refl _) h3 h4 h5 h6 h7 h8 h9 h10
  have e : Md.rounds X (t + 1) sv = Md.stp X t (Md.rounds X t sv) := rfl
  rw [e]
  unfold Md.stp Md.ff
  rw [h0]
  generalize Md.rounds X t sv = r at *
  simp only []
  rw [BitVec.add_comm r.a]
  exact hb

end

end Go.Proofs.Ytkjapcmnopnblaa
