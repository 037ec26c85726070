/- The four kinds of a round of MD5 as the code has them: what each region does to the slots, over a frame that is not written out. -/
import Derived.Test.YtkjapcmnopnblaaSt
import Derived.Test.YtkjapcmnopnblaaMd
namespace Go.Proofs.Ytkjapcmnopnblaa
open Go

/-- The frame behind a region that writes slot 'sa' and scratch slots from 30 on. -/
structure Upd (a : Act) (sa : Nat) (v : Value) (a' : Act) : Prop where
  size : a'.tmps.size = a.tmps.size
  defers : a'.defers = a.defers
  here : a'.eval (.tmp sa) = v
  else_ : ∀ t : Nat, t < 30 → t ≠ sa → a'.eval (.tmp t) = a.eval (.tmp t)

/-- The contract of a turn to the left. -/
def Rots (P : Program) (f : FuncId) : Prop := ∀ (x : Md.W) (k : Nat) (w : World), 1 ≤ k → k ≤ 31 → Calls P f #[U x, .int .i64 (k : Int)] w fun e w' => e = .returned (U (Md.rotl x k)) ∧ w = w'

section
variable {P : Program} {w : World} {ops : Array Oper} {Q : Exit → Act → World → Prop} {a : Act}
set_option linter.unusedVariables false
set_option linter.unusedSimpArgs false
set_option maxHeartbeats 1000000
theorem rd1 (m : Nat) (hm : 30 ≤ m) (hsz : m + 20 ≤ a.tmps.size) (sa sb sc sd sx : Nat) (la : sa < 30) (lb : sb < 30) (lc : sc < 30) (ld : sd < 30) (lx : sx < 30)
    {A B C D X : Md.W} (ha : a.eval (.tmp sa) = U A) (hb0 : a.eval (.tmp sb) = U B) (hc : a.eval (.tmp sc) = U C) (hd : a.eval (.tmp sd) = U D) (hx : a.eval (.tmp sx) = U X)
    {f : FuncId} {fn : Func} (hf : P.funcs[f]? = some fn) (hb : fn.body.isNone = false) (hn : (fn.name == "runtime.NumGoroutine") = false) (hrot : Rots P f)
    {nk sh : Int} (K : Md.W) (s : Nat) (hK : nk = (K.toNat : Int)) (hS : sh = (s : Int)) (hs1 : 1 ≤ s) (hs2 : s ≤ 31)
    {ty0 : TypeId} {po0 : String} {af0 : Array Edge} {ty1 : TypeId} {po1 : String} {af1 : Array Edge} {ty2 : TypeId} {po2 : String} {af2 : Array Edge} {ty3 : TypeId} {po3 : String} {af3 : Array Edge}
    {t3 u3 : TypeId} {ty4 : TypeId} {po4 : String} {af4 : Array Edge} {ty5 : TypeId} {po5 : String} {af5 : Array Edge} {t5 u5 : TypeId}
    {ty6 : TypeId} {po6 : String} {af6 : Array Edge} {ty7 : TypeId} {po7 : String} {af7 : Array Edge} {t7 u7 : TypeId} {ty8 : TypeId} {po8 : String} {af8 : Array Edge}
    {ty9 : TypeId} {po9 : String} {af9 : Array Edge} {t9 u9 : TypeId} {ty10 : TypeId} {po10 : String} {af10 : Array Edge} {ty11 : TypeId} {po11 : String} {af11 : Array Edge}
    {t11 u11 : TypeId} {ty12 : TypeId} {po12 : String} {af12 : Array Edge} {t12 u12 : TypeId} {ty13 : TypeId} {po13 : String} {af13 : Array Edge}
    {ats : Array TypeId} {ty14 : TypeId} {po14 : String} {af14 : Array Edge} {t14 u14 : TypeId} {ty15 : TypeId} {po15 : String} {af15 : Array Edge}
    (H : ∀ a', Upd a sa (U (B + Md.rotl ((((C ^^^ D) &&& B) ^^^ D) + A + X + K) s)) a' → Q .normal a' w) :
    wpList P ops Q [{ dst := some (m), op := .move (.tmp sb), type := ty0, pos := po0, after := af0, guard := none },
      { dst := some (m + 1), op := .move (.tmp sc), type := ty1, pos := po1, after := af1, guard := none },
      { dst := some (m + 2), op := .move (.tmp sd), type := ty2, pos := po2, after := af2, guard := none },
      { dst := some (m + 3), op := .binOp .xor t3 (.tmp (m + 1)) (.tmp (m + 2)) u3, type := ty3, pos := po3, after := af3, guard := none },
      { dst := some (m + 4), op := .move (.tmp sb), type := ty4, pos := po4, after := af4, guard := none },
      { dst := some (m + 5), op := .binOp .and t5 (.tmp (m + 3)) (.tmp (m + 4)) u5, type := ty5, pos := po5, after := af5, guard := none },
      { dst := some (m + 6), op := .move (.tmp sd), type := ty6, pos := po6, after := af6, guard := none },
      { dst := some (m + 7), op := .binOp .xor t7 (.tmp (m + 5)) (.tmp (m + 6)) u7, type := ty7, pos := po7, after := af7, guard := none },
      { dst := some (m + 8), op := .move (.tmp sa), type := ty8, pos := po8, after := af8, guard := none },
      { dst := some (m + 9), op := .binOp .add t9 (.tmp (m + 7)) (.tmp (m + 8)) u9, type := ty9, pos := po9, after := af9, guard := none },
      { dst := some (m + 10), op := .move (.tmp sx), type := ty10, pos := po10, after := af10, guard := none },
      { dst := some (m + 11), op := .binOp .add t11 (.tmp (m + 9)) (.tmp (m + 10)) u11, type := ty11, pos := po11, after := af11, guard := none },
      { dst := some (m + 12), op := .binOp .add t12 (.tmp (m + 11)) (.const (.int .u32 nk)) u12, type := ty12, pos := po12, after := af12, guard := none },
      { dst := some (m + 13), op := .call { callee := .value (.func f), args := #[(.tmp (m + 12)), .const (.int .i64 sh)], argTypes := ats }, type := ty13, pos := po13, after := af13, guard := none },
      { dst := some (m + 14), op := .binOp .add t14 (.tmp m) (.tmp (m + 13)) u14, type := ty14, pos := po14, after := af14, guard := none },
      { dst := some (sa), op := .assign (.tmp (m + 14)), type := ty15, pos := po15, after := af15, guard := none }] a w := by
  subst hK hS
  refine s_mv (by simp (disch := first | omega | (simp only [size_put]; omega)) only [eval_put_same, eval_put_other, ha, hb0, hc, hd, hx]; rfl) ?_
  refine s_mv (by simp (disch := first | omega | (simp only [size_put]; omega)) only [eval_put_same, eval_put_other, ha, hb0, hc, hd, hx]; rfl) ?_
  refine s_mv (by simp (disch := first | omega | (simp only [size_put]; omega)) only [eval_put_same, eval_put_other, ha, hb0, hc, hd, hx]; rfl) ?_
  refine s_xor (by simp (disch := first | omega | (simp only [size_put]; omega)) only [eval_put_same, eval_put_other, ha, hb0, hc, hd, hx]; rfl) (by simp (disch := first | omega | (simp only [size_put]; omega)) only [eval_put_same, eval_put_other, ha, hb0, hc, hd, hx]; rfl) ?_
  refine s_mv (by simp (disch := first | omega | (simp only [size_put]; omega)) only [eval_put_same, eval_put_other, ha, hb0, hc, hd, hx]; rfl) ?_
  refine s_and (by simp (disch := first | omega | (simp only [size_put]; omega)) only [eval_put_same, eval_put_other, ha, hb0, hc, hd, hx]; rfl) (by simp (disch := first | omega | (simp only [size_put]; omega)) only [eval_put_same, eval_put_other, ha, hb0, hc, hd, hx]; rfl) ?_
  refine s_mv (by simp (disch := first | omega | (simp only [size_put]; omega)) only [eval_put_same, eval_put_other, ha, hb0, hc, hd, hx]; rfl) ?_
  refine s_xor (by simp (disch := first | omega | (simp only [size_put]; omega)) only [eval_put_same, eval_put_other, ha, hb0, hc, hd, hx]; rfl) (by simp (disch := first | omega | (simp only [size_put]; omega)) only [eval_put_same, eval_put_other, ha, hb0, hc, hd, hx]; rfl) ?_
  refine s_mv (by simp (disch := first | omega | (simp only [size_put]; omega)) only [eval_put_same, eval_put_other, ha, hb0, hc, hd, hx]; rfl) ?_
  refine s_add (by simp (disch := first | omega | (simp only [size_put]; omega)) only [eval_put_same, eval_put_other, ha, hb0, hc, hd, hx]; rfl) (by simp (disch := first | omega | (simp only [size_put]; omega)) only [eval_put_same, eval_put_other, ha, hb0, hc, hd, hx]; rfl) ?_
  refine s_mv (by simp (disch := first | omega | (simp only [size_put]; omega)) only [eval_put_same, eval_put_other, ha, hb0, hc, hd, hx]; rfl) ?_
  refine s_add (by simp (disch := first | omega | (simp only [size_put]; omega)) only [eval_put_same, eval_put_other, ha, hb0, hc, hd, hx]; rfl) (by simp (disch := first | omega | (simp only [size_put]; omega)) only [eval_put_same, eval_put_other, ha, hb0, hc, hd, hx]; rfl) ?_
  refine s_add (by simp (disch := first | omega | (simp only [size_put]; omega)) only [eval_put_same, eval_put_other, ha, hb0, hc, hd, hx]; rfl) rfl ?_
  refine s_call hf hb hn #[U _, .int .i64 (s : Int)] (by simp only [List.map_toArray, List.map_cons, List.map_nil]; simp (disch := first | omega | (simp only [size_put]; omega)) only [eval_put_same, eval_put_other]; rfl) ?_
  refine (hrot _ s w hs1 hs2).mono ?_
  rintro e w' ⟨rfl, rfl⟩
  refine ⟨_, rfl, ?_⟩
  refine s_add (by simp (disch := first | omega | (simp only [size_put]; omega)) only [eval_put_same, eval_put_other, ha, hb0, hc, hd, hx]; rfl) (by simp (disch := first | omega | (simp only [size_put]; omega)) only [eval_put_same, eval_put_other, ha, hb0, hc, hd, hx]; rfl) ?_
  refine s_as (by simp (disch := first | omega | (simp only [size_put]; omega)) only [eval_put_same, eval_put_other, ha, hb0, hc, hd, hx]; rfl) ?_
  refine wpList_nil (H _ ⟨?_, ?_, ?_, ?_⟩)
  · simp [size_put]
  · simp only [defers_put]
  · rw [eval_put_same _ _ _ (by simp [size_put]; omega)]
    try simp (disch := first | omega | (simp only [size_put]; omega)) only [eval_put_same, eval_put_other, ha, hb0, hc, hd, hx]
  · intro t ht hne
    try simp (disch := first | omega | (simp only [size_put]; omega)) only [eval_put_same, eval_put_other, ha, hb0, hc, hd, hx]
theorem rd2 (m : Nat) (hm : 30 ≤ m) (hsz : m + 20 ≤ a.tmps.size) (sa sb sc sd sx : Nat) (la : sa < 30) (lb : sb < 30) (lc : sc < 30) (ld : sd < 30) (lx : sx < 30)
    {A B C D X : Md.W} (ha : a.eval (.tmp sa) = U A) (hb0 : a.eval (.tmp sb) = U B) (hc : a.eval (.tmp sc) = U C) (hd : a.eval (.tmp sd) = U D) (hx : a.eval (.tmp sx) = U X)
    {f : FuncId} {fn : Func} (hf : P.funcs[f]? = some fn) (hb : fn.body.isNone = false) (hn : (fn.name == "runtime.NumGoroutine") = false) (hrot : Rots P f)
    {nk sh : Int} (K : Md.W) (s : Nat) (hK : nk = (K.toNat : Int)) (hS : sh = (s : Int)) (hs1 : 1 ≤ s) (hs2 : s ≤ 31)
    {ty0 : TypeId} {po0 : String} {af0 : Array Edge} {ty1 : TypeId} {po1 : String} {af1 : Array Edge} {ty2 : TypeId} {po2 : String} {af2 : Array Edge} {ty3 : TypeId} {po3 : String} {af3 : Array Edge}
    {t3 u3 : TypeId} {ty4 : TypeId} {po4 : String} {af4 : Array Edge} {ty5 : TypeId} {po5 : String} {af5 : Array Edge} {t5 u5 : TypeId}
    {ty6 : TypeId} {po6 : String} {af6 : Array Edge} {ty7 : TypeId} {po7 : String} {af7 : Array Edge} {t7 u7 : TypeId} {ty8 : TypeId} {po8 : String} {af8 : Array Edge}
    {ty9 : TypeId} {po9 : String} {af9 : Array Edge} {t9 u9 : TypeId} {ty10 : TypeId} {po10 : String} {af10 : Array Edge} {ty11 : TypeId} {po11 : String} {af11 : Array Edge}
    {t11 u11 : TypeId} {ty12 : TypeId} {po12 : String} {af12 : Array Edge} {t12 u12 : TypeId} {ty13 : TypeId} {po13 : String} {af13 : Array Edge}
    {ats : Array TypeId} {ty14 : TypeId} {po14 : String} {af14 : Array Edge} {t14 u14 : TypeId} {ty15 : TypeId} {po15 : String} {af15 : Array Edge}
    (H : ∀ a', Upd a sa (U (B + Md.rotl ((((B ^^^ C) &&& D) ^^^ C) + A + X + K) s)) a' → Q .normal a' w) :
    wpList P ops Q [{ dst := some (m), op := .move (.tmp sb), type := ty0, pos := po0, after := af0, guard := none },
      { dst := some (m + 1), op := .move (.tmp sb), type := ty1, pos := po1, after := af1, guard := none },
      { dst := some (m + 2), op := .move (.tmp sc), type := ty2, pos := po2, after := af2, guard := none },
      { dst := some (m + 3), op := .binOp .xor t3 (.tmp (m + 1)) (.tmp (m + 2)) u3, type := ty3, pos := po3, after := af3, guard := none },
      { dst := some (m + 4), op := .move (.tmp sd), type := ty4, pos := po4, after := af4, guard := none },
      { dst := some (m + 5), op := .binOp .and t5 (.tmp (m + 3)) (.tmp (m + 4)) u5, type := ty5, pos := po5, after := af5, guard := none },
      { dst := some (m + 6), op := .move (.tmp sc), type := ty6, pos := po6, after := af6, guard := none },
      { dst := some (m + 7), op := .binOp .xor t7 (.tmp (m + 5)) (.tmp (m + 6)) u7, type := ty7, pos := po7, after := af7, guard := none },
      { dst := some (m + 8), op := .move (.tmp sa), type := ty8, pos := po8, after := af8, guard := none },
      { dst := some (m + 9), op := .binOp .add t9 (.tmp (m + 7)) (.tmp (m + 8)) u9, type := ty9, pos := po9, after := af9, guard := none },
      { dst := some (m + 10), op := .move (.tmp sx), type := ty10, pos := po10, after := af10, guard := none },
      { dst := some (m + 11), op := .binOp .add t11 (.tmp (m + 9)) (.tmp (m + 10)) u11, type := ty11, pos := po11, after := af11, guard := none },
      { dst := some (m + 12), op := .binOp .add t12 (.tmp (m + 11)) (.const (.int .u32 nk)) u12, type := ty12, pos := po12, after := af12, guard := none },
      { dst := some (m + 13), op := .call { callee := .value (.func f), args := #[(.tmp (m + 12)), .const (.int .i64 sh)], argTypes := ats }, type := ty13, pos := po13, after := af13, guard := none },
      { dst := some (m + 14), op := .binOp .add t14 (.tmp m) (.tmp (m + 13)) u14, type := ty14, pos := po14, after := af14, guard := none },
      { dst := some (sa), op := .assign (.tmp (m + 14)), type := ty15, pos := po15, after := af15, guard := none }] a w := by
  subst hK hS
  refine s_mv (by simp (disch := first | omega | (simp only [size_put]; omega)) only [eval_put_same, eval_put_other, ha, hb0, hc, hd, hx]; rfl) ?_
  refine s_mv (by simp (disch := first | omega | (simp only [size_put]; omega)) only [eval_put_same, eval_put_other, ha, hb0, hc, hd, hx]; rfl) ?_
  refine s_mv (by simp (disch := first | omega | (simp only [size_put]; omega)) only [eval_put_same, eval_put_other, ha, hb0, hc, hd, hx]; rfl) ?_
  refine s_xor (by simp (disch := first | omega | (simp only [size_put]; omega)) only [eval_put_same, eval_put_other, ha, hb0, hc, hd, hx]; rfl) (by simp (disch := first | omega | (simp only [size_put]; omega)) only [eval_put_same, eval_put_other, ha, hb0, hc, hd, hx]; rfl) ?_
  refine s_mv (by simp (disch := first | omega | (simp only [size_put]; omega)) only [eval_put_same, eval_put_other, ha, hb0, hc, hd, hx]; rfl) ?_
  refine s_and (by simp (disch := first | omega | (simp only [size_put]; omega)) only [eval_put_same, eval_put_other, ha, hb0, hc, hd, hx]; rfl) (by simp (disch := first | omega | (simp only [size_put]; omega)) only [eval_put_same, eval_put_other, ha, hb0, hc, hd, hx]; rfl) ?_
  refine s_mv (by simp (disch := first | omega | (simp only [size_put]; omega)) only [eval_put_same, eval_put_other, ha, hb0, hc, hd, hx]; rfl) ?_
  refine s_xor (by simp (disch := first | omega | (simp only [size_put]; omega)) only [eval_put_same, eval_put_other, ha, hb0, hc, hd, hx]; rfl) (by simp (disch := first | omega | (simp only [size_put]; omega)) only [eval_put_same, eval_put_other, ha, hb0, hc, hd, hx]; rfl) ?_
  refine s_mv (by simp (disch := first | omega | (simp only [size_put]; omega)) only [eval_put_same, eval_put_other, ha, hb0, hc, hd, hx]; rfl) ?_
  refine s_add (by simp (disch := first | omega | (simp only [size_put]; omega)) only [eval_put_same, eval_put_other, ha, hb0, hc, hd, hx]; rfl) (by simp (disch := first | omega | (simp only [size_put]; omega)) only [eval_put_same, eval_put_other, ha, hb0, hc, hd, hx]; rfl) ?_
  refine s_mv (by simp (disch := first | omega | (simp only [size_put]; omega)) only [eval_put_same, eval_put_other, ha, hb0, hc, hd, hx]; rfl) ?_
  refine s_add (by simp (disch := first | omega | (simp only [size_put]; omega)) only [eval_put_same, eval_put_other, ha, hb0, hc, hd, hx]; rfl) (by simp (disch := first | omega | (simp only [size_put]; omega)) only [eval_put_same, eval_put_other, ha, hb0, hc, hd, hx]; rfl) ?_
  refine s_add (by simp (disch := first | omega | (simp only [size_put]; omega)) only [eval_put_same, eval_put_other, ha, hb0, hc, hd, hx]; rfl) rfl ?_
  refine s_call hf hb hn #[U _, .int .i64 (s : Int)] (by simp only [List.map_toArray, List.map_cons, List.map_nil]; simp (disch := first | omega | (simp only [size_put]; omega)) only [eval_put_same, eval_put_other]; rfl) ?_
  refine (hrot _ s w hs1 hs2).mono ?_
  rintro e w' ⟨rfl, rfl⟩
  refine ⟨_, rfl, ?_⟩
  refine s_add (by simp (disch := first | omega | (simp only [size_put]; omega)) only [eval_put_same, eval_put_other, ha, hb0, hc, hd, hx]; rfl) (by simp (disch := first | omega | (simp only [size_put]; omega)) only [eval_put_same, eval_put_other, ha, hb0, hc, hd, hx]; rfl) ?_
  refine s_as (by simp (disch := first | omega | (simp only [size_put]; omega)) only [eval_put_same, eval_put_other, ha, hb0, hc, hd, hx]; rfl) ?_
  refine wpList_nil (H _ ⟨?_, ?_, ?_, ?_⟩)
  · simp [size_put]
  · simp only [defers_put]
  · rw [eval_put_same _ _ _ (by simp [size_put]; omega)]
    try simp (disch := first | omega | (simp only [size_put]; omega)) only [eval_put_same, eval_put_other, ha, hb0, hc, hd, hx]
  · intro t ht hne
    try simp (disch := first | omega | (simp only [size_put]; omega)) only [eval_put_same, eval_put_other, ha, hb0, hc, hd, hx]
theorem rd3 (m : Nat) (hm : 30 ≤ m) (hsz : m + 20 ≤ a.tmps.size) (sa sb sc sd sx : Nat) (la : sa < 30) (lb : sb < 30) (lc : sc < 30) (ld : sd < 30) (lx : sx < 30)
    {A B C D X : Md.W} (ha : a.eval (.tmp sa) = U A) (hb0 : a.eval (.tmp sb) = U B) (hc : a.eval (.tmp sc) = U C) (hd : a.eval (.tmp sd) = U D) (hx : a.eval (.tmp sx) = U X)
    {f : FuncId} {fn : Func} (hf : P.funcs[f]? = some fn) (hb : fn.body.isNone = false) (hn : (fn.name == "runtime.NumGoroutine") = false) (hrot : Rots P f)
    {nk sh : Int} (K : Md.W) (s : Nat) (hK : nk = (K.toNat : Int)) (hS : sh = (s : Int)) (hs1 : 1 ≤ s) (hs2 : s ≤ 31)
    {ty0 : TypeId} {po0 : String} {af0 : Array Edge} {ty1 : TypeId} {po1 : String} {af1 : Array Edge} {ty2 : TypeId} {po2 : String} {af2 : Array Edge} {ty3 : TypeId} {po3 : String} {af3 : Array Edge}
    {t3 u3 : TypeId} {ty4 : TypeId} {po4 : String} {af4 : Array Edge} {ty5 : TypeId} {po5 : String} {af5 : Array Edge} {t5 u5 : TypeId}
    {ty6 : TypeId} {po6 : String} {af6 : Array Edge} {ty7 : TypeId} {po7 : String} {af7 : Array Edge} {t7 u7 : TypeId} {ty8 : TypeId} {po8 : String} {af8 : Array Edge}
    {ty9 : TypeId} {po9 : String} {af9 : Array Edge} {t9 u9 : TypeId} {ty10 : TypeId} {po10 : String} {af10 : Array Edge} {t10 u10 : TypeId}
    {ty11 : TypeId} {po11 : String} {af11 : Array Edge} {ats : Array TypeId} {ty12 : TypeId} {po12 : String} {af12 : Array Edge} {t12 u12 : TypeId}
    {ty13 : TypeId} {po13 : String} {af13 : Array Edge}
    (H : ∀ a', Upd a sa (U (B + Md.rotl ((B ^^^ C ^^^ D) + A + X + K) s)) a' → Q .normal a' w) :
    wpList P ops Q [{ dst := some (m), op := .move (.tmp sb), type := ty0, pos := po0, after := af0, guard := none },
      { dst := some (m + 1), op := .move (.tmp sb), type := ty1, pos := po1, after := af1, guard := none },
      { dst := some (m + 2), op := .move (.tmp sc), type := ty2, pos := po2, after := af2, guard := none },
      { dst := some (m + 3), op := .binOp .xor t3 (.tmp (m + 1)) (.tmp (m + 2)) u3, type := ty3, pos := po3, after := af3, guard := none },
      { dst := some (m + 4), op := .move (.tmp sd), type := ty4, pos := po4, after := af4, guard := none },
      { dst := some (m + 5), op := .binOp .xor t5 (.tmp (m + 3)) (.tmp (m + 4)) u5, type := ty5, pos := po5, after := af5, guard := none },
      { dst := some (m + 6), op := .move (.tmp sa), type := ty6, pos := po6, after := af6, guard := none },
      { dst := some (m + 7), op := .binOp .add t7 (.tmp (m + 5)) (.tmp (m + 6)) u7, type := ty7, pos := po7, after := af7, guard := none },
      { dst := some (m + 8), op := .move (.tmp sx), type := ty8, pos := po8, after := af8, guard := none },
      { dst := some (m + 9), op := .binOp .add t9 (.tmp (m + 7)) (.tmp (m + 8)) u9, type := ty9, pos := po9, after := af9, guard := none },
      { dst := some (m + 10), op := .binOp .add t10 (.tmp (m + 9)) (.const (.int .u32 nk)) u10, type := ty10, pos := po10, after := af10, guard := none },
      { dst := some (m + 11), op := .call { callee := .value (.func f), args := #[(.tmp (m + 10)), .const (.int .i64 sh)], argTypes := ats }, type := ty11, pos := po11, after := af11, guard := none },
      { dst := some (m + 12), op := .binOp .add t12 (.tmp m) (.tmp (m + 11)) u12, type := ty12, pos := po12, after := af12, guard := none },
      { dst := some (sa), op := .assign (.tmp (m + 12)), type := ty13, pos := po13, after := af13, guard := none }] a w := by
  subst hK hS
  refine s_mv (by simp (disch := first | omega | (simp only [size_put]; omega)) only [eval_put_same, eval_put_other, ha, hb0, hc, hd, hx]; rfl) ?_
  refine s_mv (by simp (disch := first | omega | (simp only [size_put]; omega)) only [eval_put_same, eval_put_other, ha, hb0, hc, hd, hx]; rfl) ?_
  refine s_mv (by simp (disch := first | omega | (simp only [size_put]; omega)) only [eval_put_same, eval_put_other, ha, hb0, hc, hd, hx]; rfl) ?_
  refine s_xor (by simp (disch := first | omega | (simp only [size_put]; omega)) only [eval_put_same, eval_put_other, ha, hb0, hc, hd, hx]; rfl) (by simp (disch := first | omega | (simp only [size_put]; omega)) only [eval_put_same, eval_put_other, ha, hb0, hc, hd, hx]; rfl) ?_
  refine s_mv (by simp (disch := first | omega | (simp only [size_put]; omega)) only [eval_put_same, eval_put_other, ha, hb0, hc, hd, hx]; rfl) ?_
  refine s_xor (by simp (disch := first | omega | (simp only [size_put]; omega)) only [eval_put_same, eval_put_other, ha, hb0, hc, hd, hx]; rfl) (by simp (disch := first | omega | (simp only [size_put]; omega)) only [eval_put_same, eval_put_other, ha, hb0, hc, hd, hx]; rfl) ?_
  refine s_mv (by simp (disch := first | omega | (simp only [size_put]; omega)) only [eval_put_same, eval_put_other, ha, hb0, hc, hd, hx]; rfl) ?_
  refine s_add (by simp (disch := first | omega | (simp only [size_put]; omega)) only [eval_put_same, eval_put_other, ha, hb0, hc, hd, hx]; rfl) (by simp (disch := first | omega | (simp only [size_put]; omega)) only [eval_put_same, eval_put_other, ha, hb0, hc, hd, hx]; rfl) ?_
  refine s_mv (by simp (disch := first | omega | (simp only [size_put]; omega)) only [eval_put_same, eval_put_other, ha, hb0, hc, hd, hx]; rfl) ?_
  refine s_add (by simp (disch := first | omega | (simp only [size_put]; omega)) only [eval_put_same, eval_put_other, ha, hb0, hc, hd, hx]; rfl) (by simp (disch := first | omega | (simp only [size_put]; omega)) only [eval_put_same, eval_put_other, ha, hb0, hc, hd, hx]; rfl) ?_
  refine s_add (by simp (disch := first | omega | (simp only [size_put]; omega)) only [eval_put_same, eval_put_other, ha, hb0, hc, hd, hx]; rfl) rfl ?_
  refine s_call hf hb hn #[U _, .int .i64 (s : Int)] (by simp only [List.map_toArray, List.map_cons, List.map_nil]; simp (disch := first | omega | (simp only [size_put]; omega)) only [eval_put_same, eval_put_other]; rfl) ?_
  refine (hrot _ s w hs1 hs2).mono ?_
  rintro e w' ⟨rfl, rfl⟩
  refine ⟨_, rfl, ?_⟩
  refine s_add (by simp (disch := first | omega | (simp only [size_put]; omega)) only [eval_put_same, eval_put_other, ha, hb0, hc, hd, hx]; rfl) (by simp (disch := first | omega | (simp only [size_put]; omega)) only [eval_put_same, eval_put_other, ha, hb0, hc, hd, hx]; rfl) ?_
  refine s_as (by simp (disch := first | omega | (simp only [size_put]; omega)) only [eval_put_same, eval_put_other, ha, hb0, hc, hd, hx]; rfl) ?_
  refine wpList_nil (H _ ⟨?_, ?_, ?_, ?_⟩)
  · simp [size_put]
  · simp only [defers_put]
  · rw [eval_put_same _ _ _ (by simp [size_put]; omega)]
    try simp (disch := first | omega | (simp only [size_put]; omega)) only [eval_put_same, eval_put_other, ha, hb0, hc, hd, hx]
  · intro t ht hne
    try simp (disch := first | omega | (simp only [size_put]; omega)) only [eval_put_same, eval_put_other, ha, hb0, hc, hd, hx]
theorem rd4 (m : Nat) (hm : 30 ≤ m) (hsz : m + 20 ≤ a.tmps.size) (sa sb sc sd sx : Nat) (la : sa < 30) (lb : sb < 30) (lc : sc < 30) (ld : sd < 30) (lx : sx < 30)
    {A B C D X : Md.W} (ha : a.eval (.tmp sa) = U A) (hb0 : a.eval (.tmp sb) = U B) (hc : a.eval (.tmp sc) = U C) (hd : a.eval (.tmp sd) = U D) (hx : a.eval (.tmp sx) = U X)
    {f : FuncId} {fn : Func} (hf : P.funcs[f]? = some fn) (hb : fn.body.isNone = false) (hn : (fn.name == "runtime.NumGoroutine") = false) (hrot : Rots P f)
    {nk sh : Int} (K : Md.W) (s : Nat) (hK : nk = (K.toNat : Int)) (hS : sh = (s : Int)) (hs1 : 1 ≤ s) (hs2 : s ≤ 31)
    {ty0 : TypeId} {po0 : String} {af0 : Array Edge} {ty1 : TypeId} {po1 : String} {af1 : Array Edge} {ty2 : TypeId} {po2 : String} {af2 : Array Edge} {ty3 : TypeId} {po3 : String} {af3 : Array Edge}
    {ty4 : TypeId} {po4 : String} {af4 : Array Edge} {t4 : TypeId} {ty5 : TypeId} {po5 : String} {af5 : Array Edge} {t5 u5 : TypeId}
    {ty6 : TypeId} {po6 : String} {af6 : Array Edge} {t6 u6 : TypeId} {ty7 : TypeId} {po7 : String} {af7 : Array Edge} {ty8 : TypeId} {po8 : String} {af8 : Array Edge}
    {t8 u8 : TypeId} {ty9 : TypeId} {po9 : String} {af9 : Array Edge} {ty10 : TypeId} {po10 : String} {af10 : Array Edge} {t10 u10 : TypeId}
    {ty11 : TypeId} {po11 : String} {af11 : Array Edge} {t11 u11 : TypeId} {ty12 : TypeId} {po12 : String} {af12 : Array Edge} {ats : Array TypeId}
    {ty13 : TypeId} {po13 : String} {af13 : Array Edge} {t13 u13 : TypeId} {ty14 : TypeId} {po14 : String} {af14 : Array Edge}
    (H : ∀ a', Upd a sa (U (B + Md.rotl ((C ^^^ (B ||| ~~~ D)) + A + X + K) s)) a' → Q .normal a' w) :
    wpList P ops Q [{ dst := some (m), op := .move (.tmp sb), type := ty0, pos := po0, after := af0, guard := none },
      { dst := some (m + 1), op := .move (.tmp sc), type := ty1, pos := po1, after := af1, guard := none },
      { dst := some (m + 2), op := .move (.tmp sb), type := ty2, pos := po2, after := af2, guard := none },
      { dst := some (m + 3), op := .move (.tmp sd), type := ty3, pos := po3, after := af3, guard := none },
      { dst := some (m + 4), op := .unOp .xor t4 (.tmp (m + 3)), type := ty4, pos := po4, after := af4, guard := none },
      { dst := some (m + 5), op := .binOp .or t5 (.tmp (m + 2)) (.tmp (m + 4)) u5, type := ty5, pos := po5, after := af5, guard := none },
      { dst := some (m + 6), op := .binOp .xor t6 (.tmp (m + 1)) (.tmp (m + 5)) u6, type := ty6, pos := po6, after := af6, guard := none },
      { dst := some (m + 7), op := .move (.tmp sa), type := ty7, pos := po7, after := af7, guard := none },
      { dst := some (m + 8), op := .binOp .add t8 (.tmp (m + 6)) (.tmp (m + 7)) u8, type := ty8, pos := po8, after := af8, guard := none },
      { dst := some (m + 9), op := .move (.tmp sx), type := ty9, pos := po9, after := af9, guard := none },
      { dst := some (m + 10), op := .binOp .add t10 (.tmp (m + 8)) (.tmp (m + 9)) u10, type := ty10, pos := po10, after := af10, guard := none },
      { dst := some (m + 11), op := .binOp .add t11 (.tmp (m + 10)) (.const (.int .u32 nk)) u11, type := ty11, pos := po11, after := af11, guard := none },
      { dst := some (m + 12), op := .call { callee := .value (.func f), args := #[(.tmp (m + 11)), .const (.int .i64 sh)], argTypes := ats }, type := ty12, pos := po12, after := af12, guard := none },
      { dst := some (m + 13), op := .binOp .add t13 (.tmp m) (.tmp (m + 12)) u13, type := ty13, pos := po13, after := af13, guard := none },
      { dst := some (sa), op := .assign (.tmp (m + 13)), type := ty14, pos := po14, after := af14, guard := none }] a w := by
  subst hK hS
  refine s_mv (by simp (disch := first | omega | (simp only [size_put]; omega)) only [eval_put_same, eval_put_other, ha, hb0, hc, hd, hx]; rfl) ?_
  refine s_mv (by simp (disch := first | omega | (simp only [size_put]; omega)) only [eval_put_same, eval_put_other, ha, hb0, hc, hd, hx]; rfl) ?_
  refine s_mv (by simp (disch := first | omega | (simp only [size_put]; omega)) only [eval_put_same, eval_put_other, ha, hb0, hc, hd, hx]; rfl) ?_
  refine s_mv (by simp (disch := first | omega | (simp only [size_put]; omega)) only [eval_put_same, eval_put_other, ha, hb0, hc, hd, hx]; rfl) ?_
  refine s_not (by simp (disch := first | omega | (simp only [size_put]; omega)) only [eval_put_same, eval_put_other, ha, hb0, hc, hd, hx]; rfl) ?_
  refine s_or (by simp (disch := first | omega | (simp only [size_put]; omega)) only [eval_put_same, eval_put_other, ha, hb0, hc, hd, hx]; rfl) (by simp (disch := first | omega | (simp only [size_put]; omega)) only [eval_put_same, eval_put_other, ha, hb0, hc, hd, hx]; rfl) ?_
  refine s_xor (by simp (disch := first | omega | (simp only [size_put]; omega)) only [eval_put_same, eval_put_other, ha, hb0, hc, hd, hx]; rfl) (by simp (disch := first | omega | (simp only [size_put]; omega)) only [eval_put_same, eval_put_other, ha, hb0, hc, hd, hx]; rfl) ?_
  refine s_mv (by simp (disch := first | omega | (simp only [size_put]; omega)) only [eval_put_same, eval_put_other, ha, hb0, hc, hd, hx]; rfl) ?_
  refine s_add (by simp (disch := first | omega | (simp only [size_put]; omega)) only [eval_put_same, eval_put_other, ha, hb0, hc, hd, hx]; rfl) (by simp (disch := first | omega | (simp only [size_put]; omega)) only [eval_put_same, eval_put_other, ha, hb0, hc, hd, hx]; rfl) ?_
  refine s_mv (by simp (disch := first | omega | (simp only [size_put]; omega)) only [eval_put_same, eval_put_other, ha, hb0, hc, hd, hx]; rfl) ?_
  refine s_add (by simp (disch := first | omega | (simp only [size_put]; omega)) only [eval_put_same, eval_put_other, ha, hb0, hc, hd, hx]; rfl) (by simp (disch := first | omega | (simp only [size_put]; omega)) only [eval_put_same, eval_put_other, ha, hb0, hc, hd, hx]; rfl) ?_
  refine s_add (by simp (disch := first | omega | (simp only [size_put]; omega)) only [eval_put_same, eval_put_other, ha, hb0, hc, hd, hx]; rfl) rfl ?_
  refine s_call hf hb hn #[U _, .int .i64 (s : Int)] (by simp only [List.map_toArray, List.map_cons, List.map_nil]; simp (disch := first | omega | (simp only [size_put]; omega)) only [eval_put_same, eval_put_other]; rfl) ?_
  refine (hrot _ s w hs1 hs2).mono ?_
  rintro e w' ⟨rfl, rfl⟩
  refine ⟨_, rfl, ?_⟩
  refine s_add (by simp (disch := first | omega | (simp only [size_put]; omega)) only [eval_put_same, eval_put_other, ha, hb0, hc, hd, hx]; rfl) (by simp (disch := first | omega | (simp only [size_put]; omega)) only [eval_put_same, eval_put_other, ha, hb0, hc, hd, hx]; rfl) ?_
  refine s_as (by simp (disch := first | omega | (simp only [size_put]; omega)) only [eval_put_same, eval_put_other, ha, hb0, hc, hd, hx]; rfl) ?_
  refine wpList_nil (H _ ⟨?_, ?_, ?_, ?_⟩)
  · simp [size_put]
  · simp only [defers_put]
  · rw [eval_put_same _ _ _ (by simp [size_put]; omega)]
    try simp (disch := first | omega | (simp only [size_put]; omega)) only [eval_put_same, eval_put_other, ha, hb0, hc, hd, hx]
  · intro t ht hne
    try simp (disch := first | omega | (simp only [size_put]; omega)) only [eval_put_same, eval_put_other, ha, hb0, hc, hd, hx]
end
end Go.Proofs.Ytkjapcmnopnblaa
