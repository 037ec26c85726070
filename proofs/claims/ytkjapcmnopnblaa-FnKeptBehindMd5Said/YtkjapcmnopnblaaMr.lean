/- A region that draws its order, by what each operation is good for: if what an operation yields holds in every later world, one proof an operation serves every order. -/
import Derived.Test.YtkjapcmnopnblaaZb
import Derived.Orders
namespace Go.Proofs.Ytkjapcmnopnblaa
open Go

/-- Operation i waits for operation j. -/
def waits (l : List Oper) (i j : Nat) : Bool := match l[i]? with
  | some o => o.after.any fun e => Region.binds .any e && e.on == j
  | none => false
def writes (l : List Oper) (j t : Nat) : Bool := match l[j]? with
  | some o => o.dst == some t
  | none => false
/-- Whatever writes slot t waits for operation i. -/
def lateSlot (l : List Oper) (i t : Nat) : Bool := (List.range l.length).all fun j => !writes l j t || j == i || waits l j i
/-- Nobody writes slot t. -/
def idleSlot (l : List Oper) (t : Nat) : Bool := (List.range l.length).all fun j => !writes l j t
/-- Operation i waits for j, and j writes d. -/
def dep (l : List Oper) (i j d : Nat) : Bool := waits l i j && writes l j d
def backEdges (l : List Oper) : Bool := (List.range l.length).all fun i => (List.range l.length).all fun j => !waits l i j || j < i
def inRange (l : List Oper) : Bool := l.all fun o => o.after.all fun e => !Region.binds .any e || e.on < l.length
def dstApart (l : List Oper) : Bool := (List.range l.length).all fun i => (List.range l.length).all fun j => i == j ||
  match (l[i]?).bind (·.dst) with
  | none => true
  | some t => !writes l j t
def dstsBelow (l : List Oper) (n : Nat) : Bool := l.all fun o => match o.dst with
  | none => true
  | some d => d < n

/-- Operation i waits for j, by itself or through others. -/
def reaches (l : List Oper) : Nat → Nat → Nat → Bool
  | 0, _, _ => false
  | f + 1, i, j => waits l i j || (List.range l.length).any fun k => waits l i k && reaches l f k j
/-- From number m on, each operation waits for all ahead of it. -/
def chainFrom (l : List Oper) (m : Nat) : Bool := (List.range l.length).all fun k => k < m || (List.range k).all fun j => reaches l l.length k j

theorem writes_iff {l : List Oper} {j t : Nat} : writes l j t = true ↔ ∃ o, l[j]? = some o ∧ o.dst = some t := by
  unfold writes
  cases h : l[j]? <;> simp
theorem waits_iff {l : List Oper} {i j : Nat} : waits l i j = true ↔ ∃ o, l[i]? = some o ∧ ∃ e ∈ o.after, Region.binds .any e = true ∧ e.on = j := by
  unfold waits
  cases h : l[i]? with
  | none => simp
  | some o =>
    simp only [Array.any_eq_true', Bool.and_eq_true, beq_iff_eq, Option.some.injEq, exists_eq_left']

structure MInv (l : List Oper) (R : World → World → Prop) (V : Nat → Value → World → Prop) (a0 : Act) (w0 : World) (listed : Array Bool) (a : Act) (w : World) : Prop where
  ls : listed.size = l.length
  closed : ∀ j i, listed.getD j false = true → waits l j i = true → listed.getD i false = true
  r : R w0 w
  size : a.tmps.size = a0.tmps.size
  defers : a.defers = a0.defers
  vals : ∀ j d, writes l j d = true → listed.getD j false = true → V j (a.eval (.tmp d)) w
  skips : ∀ j o, l[j]? = some o → o.dst = none → listed.getD j false = true → V j undef w
  keep : ∀ t, (∀ j, writes l j t = true → listed.getD j false = false) → a.eval (.tmp t) = a0.eval (.tmp t)

theorem filter_length_le {p q : Nat → Bool} (h : ∀ x, p x = true → q x = true) : ∀ l : List Nat, (l.filter p).length ≤ (l.filter q).length
  | [] => Nat.le_refl _
  | x :: l => by
    have ih := filter_length_le h l
    by_cases hp : p x = true
    · simp [hp, h x hp, ih]
    · by_cases hq : q x = true
      · simp [hp, hq]; omega
      · simp [hp, hq, ih]
theorem filter_length_lt {p q : Nat → Bool} (h : ∀ x, p x = true → q x = true) {i : Nat} (hp : p i = false) (hq : q i = true) : ∀ l : List Nat, i ∈ l → (l.filter p).length < (l.filter q).length
  | x :: l, hi => by
    rcases List.mem_cons.1 hi with rfl | hi
    · have := filter_length_le h l
      simp [hp, hq]; omega
    · have ih := filter_length_lt h hp hq l hi
      by_cases hpx : p x = true
      · simp [hpx, h x hpx, ih]
      · by_cases hqx : q x = true
        · simp [hpx, hqx]; omega
        · simp [hpx, hqx, ih]

def todo (l : List Oper) (listed : Array Bool) : Nat := ((List.range l.length).filter fun j => !listed.getD j true).length

section
variable {P : Program} {Q : Exit → Act → World → Prop} {l : List Oper} {R : World → World → Prop} {V : Nat → Value → World → Prop}

theorem all_listed (hB : backEdges l = true) (hG : inRange l = true) {listed : Array Bool} (hs : listed.size = l.length) (hr : Region.ready .any l.toArray listed = []) : ∀ i, i < l.length → listed.getD i false = true := by
  intro i
  induction i using Nat.strongRecOn with
  | _ i ih =>
    intro hi
    by_cases h : listed.getD i false = true
    · exact h
    · exfalso
      have h1 : listed.getD i true = false := by
        have hlt : i < listed.size := by omega
        simp [hlt] at h ⊢
        exact h
      have hm : i ∈ Region.ready .any l.toArray listed := by
        rw [mem_ready]
        refine ⟨h1, l[i], by simp, fun e he hb => ?_⟩
        have hw : waits l i e.on = true := waits_iff.2 ⟨l[i], by simp, e, he, hb, rfl⟩
        have hlt : e.on < l.length := by
          have h2 := hG
          simp only [inRange, List.all_eq_true, Array.all_eq_true_iff_forall_mem, Bool.or_eq_true, Bool.not_eq_true', decide_eq_true_eq] at h2
          rcases h2 l[i] (List.getElem_mem hi) e he with h3 | h3
          · rw [hb] at h3; cases h3
          · exact h3
        have hlt2 : e.on < i := by
          have h2 := hB
          simp only [backEdges, List.all_eq_true, List.mem_range, Bool.or_eq_true, Bool.not_eq_true', decide_eq_true_eq] at h2
          rcases h2 i hi e.on hlt with h3 | h3
          · rw [hw] at h3; cases h3
          · exact h3
        exact ih e.on hlt2 hlt
      rw [hr] at hm
      cases hm

theorem reaches_listed {listed : Array Bool} (hc : ∀ j i, listed.getD j false = true → waits l j i = true → listed.getD i false = true) : ∀ (f i j : Nat), reaches l f i j = true → listed.getD i false = true → listed.getD j false = true
  | 0, _, _, h, _ => by simp [reaches] at h
  | f + 1, i, j, h, hi => by
    simp only [reaches, Bool.or_eq_true, List.any_eq_true, List.mem_range, Bool.and_eq_true] at h
    rcases h with h | ⟨k, _, h1, h2⟩
    · exact hc i j hi h
    · exact reaches_listed hc f k j h2 (hc i k hi h1)

/-- The listed ones are closed, and what is ready waits for listed ones alone. -/
def Closed (l : List Oper) (listed : Array Bool) : Prop := ∀ j i, listed.getD j false = true → waits l j i = true → listed.getD i false = true
theorem Closed.set {listed : Array Bool} {i : Nat} (h : Closed l listed) (hp : ∀ k, waits l i k = true → listed.getD k false = true) : Closed l (listed.setIfInBounds i true) := by
  intro j k hj hw
  by_cases hji : i = j
  · subst hji
    exact getD_set_true (hp k hw)
  · rw [getD_set_ne false hji] at hj
    exact getD_set_true (h j k hj hw)
theorem ready_waits {listed : Array Bool} {i : Nat} (hi : i ∈ Region.ready .any l.toArray listed) : listed.getD i true = false ∧ i < l.length ∧ ∀ k, waits l i k = true → listed.getD k false = true := by
  rw [mem_ready] at hi
  obtain ⟨h1, o, ho, hpre⟩ := hi
  have ho' : l[i]? = some o := by simpa using ho
  refine ⟨h1, (List.getElem?_eq_some_iff.1 ho').1, fun k hk => ?_⟩
  obtain ⟨o', ho2, e, he, hb, rfl⟩ := waits_iff.1 hk
  rw [ho'] at ho2
  injection ho2 with ho2
  subst ho2
  exact hpre e he hb

/-- The chain at the end: one order. -/
theorem wpAny_chain (hB : backEdges l = true) (hG : inRange l = true) {m : Nat} (hC : chainFrom l m = true) :
    ∀ (n k : Nat) (fuel : Nat) (listed : Array Bool) (a : Act) (w : World), n + k = l.length → m ≤ k → n ≤ fuel → listed.size = l.length → Closed l listed →
      (∀ j, j < k → listed.getD j false = true) → (∀ j, k ≤ j → j < l.length → listed.getD j false = false) → wpList P l.toArray Q (l.drop k) a w → wpAny P .any l.toArray Q fuel listed a w := by
  intro n
  induction n with
  | zero =>
    intro k fuel listed a w hn hm hf hs hcl h1 h2 h
    have hr : Region.ready .any l.toArray listed = [] := by
      apply List.eq_nil_iff_forall_not_mem.2
      intro j hj
      obtain ⟨h3, h4, _⟩ := ready_waits hj
      have h5 := h1 j (by omega)
      have : j < listed.size := by omega
      simp [this] at h3 h5
      rw [h3] at h5
      cases h5
    rw [List.drop_eq_nil_of_le (by omega)] at h
    exact wpAny_done hr h fuel
  | succ n ih =>
    intro k fuel listed a w hn hm hf hs hcl h1 h2 h
    obtain ⟨fuel, rfl⟩ : ∃ f, fuel = f + 1 := ⟨fuel - 1, by omega⟩
    have hk : k < l.length := by omega
    have hks : k < listed.size := by omega
    have hku : listed.getD k false = false := h2 k (Nat.le_refl _) hk
    have only : ∀ i, i ∈ Region.ready .any l.toArray listed → i = k := by
      intro i hi
      obtain ⟨h3, h4, h5⟩ := ready_waits hi
      have his : i < listed.size := by omega
      have h3' : listed.getD i false = false := by simp [his] at h3 ⊢; exact h3
      rcases Nat.lt_trichotomy i k with h6 | h6 | h6
      · rw [h1 i h6] at h3'; cases h3'
      · exact h6
      · exfalso
        have h7 := hC
        simp only [chainFrom, List.all_eq_true, List.mem_range, Bool.or_eq_true, decide_eq_true_eq] at h7
        have h8 := (h7 i h4).resolve_left (by omega) k h6
        have h9 := reaches_listed (Closed.set hcl h5) _ _ _ h8 (by simp [his])
        rw [getD_set_ne false (by omega), hku] at h9
        cases h9
    have mem : k ∈ Region.ready .any l.toArray listed := by
      rw [mem_ready]
      refine ⟨by simp [hks] at hku ⊢; exact hku, l[k], by simp, fun e he hb => ?_⟩
      have hw : waits l k e.on = true := waits_iff.2 ⟨l[k], by simp, e, he, hb, rfl⟩
      have hlt : e.on < l.length := by
        have h2 := hG
        simp only [inRange, List.all_eq_true, Array.all_eq_true_iff_forall_mem, Bool.or_eq_true, Bool.not_eq_true', decide_eq_true_eq] at h2
        rcases h2 l[k] (List.getElem_mem hk) e he with h3 | h3
        · rw [hb] at h3; cases h3
        · exact h3
      have h2 := hB
      simp only [backEdges, List.all_eq_true, List.mem_range, Bool.or_eq_true, Bool.not_eq_true', decide_eq_true_eq] at h2
      rcases h2 k hk e.on hlt with h3 | h3
      · rw [hw] at h3; cases h3
      · exact h1 _ h3
    refine ⟨fun h0 => absurd mem (by rw [h0]; simp), fun i hi => ?_⟩
    obtain rfl := only i hi
    rw [List.drop_eq_getElem_cons hk] at h
    have h' : wpOp P l.toArray Q i (wpList P l.toArray Q (l.drop (i + 1))) a w := by
      unfold wpOp
      have e0 : l.toArray[i]? = some l[i] := by simp
      simp only [e0]
      unfold wpList at h
      exact h
    refine wpOp_mono (fun a2 w2 h2' => ?_) h'
    refine ih (i + 1) fuel _ a2 w2 (by omega) (by omega) (by omega) (by simp [hs]) (Closed.set hcl (ready_waits hi).2.2) (fun j hj => ?_) (fun j hj hj2 => ?_) h2'
    · by_cases hji : i = j
      · subst hji; simp [hks]
      · rw [getD_set_ne false hji]; exact h1 j (by omega)
    · rw [getD_set_ne false (by omega)]; exact h2 j (by omega) hj2

theorem wpAny_mono (hB : backEdges l = true) (hG : inRange l = true) (hD : dstApart l = true) {m : Nat} (hml : m ≤ l.length) (hC : chainFrom l m = true) {a0 : Act} {w0 : World} (hsz : dstsBelow l a0.tmps.size = true)
    (hRt : ∀ a b c, R a b → R b c → R a c) (hV : ∀ j v w w', V j v w → R w w' → V j v w')
    (hstep : ∀ i o, l[i]? = some o → i < m → ∀ a w, a.tmps.size = a0.tmps.size → a.defers = a0.defers → R w0 w →
      (∀ t, lateSlot l i t = true → a.eval (.tmp t) = a0.eval (.tmp t)) → (∀ j d, dep l i j d = true → V j (a.eval (.tmp d)) w) →
      wpOp P l.toArray Q i (fun a2 w2 => ∃ v, a2 = a.put o.dst v ∧ V i v w2 ∧ R w w2 ∧ (o.dst = none → v = undef)) a w)
    (hfin : ∀ a w, a.tmps.size = a0.tmps.size → a.defers = a0.defers → R w0 w → (∀ t, (∀ j, j < m → writes l j t = false) → a.eval (.tmp t) = a0.eval (.tmp t)) →
      (∀ j d, j < m → writes l j d = true → V j (a.eval (.tmp d)) w) → (∀ j o, j < m → l[j]? = some o → o.dst = none → V j undef w) → wpList P l.toArray Q (l.drop m) a w) :
    ∀ (fuel : Nat) (listed : Array Bool) (a : Act) (w : World), todo l listed ≤ fuel → (∀ j, m ≤ j → listed.getD j false = false) → MInv l R V a0 w0 listed a w → wpAny P .any l.toArray Q fuel listed a w := by
  intro fuel
  have go : ∀ (fuel : Nat) (listed : Array Bool) (a : Act) (w : World), todo l listed ≤ fuel → (∀ j, m ≤ j → listed.getD j false = false) → (∀ j, j < m → listed.getD j false = true) → MInv l R V a0 w0 listed a w → wpAny P .any l.toArray Q fuel listed a w := by
    intro fuel listed a w hf hl hall hI
    refine wpAny_chain hB hG hC (l.length - m) m fuel listed a w (by omega) (Nat.le_refl _) ?_ hI.ls hI.closed hall (fun j hj _ => hl j hj) ?_
    · refine Nat.le_trans ?_ hf
      unfold todo
      have e : (List.range l.length) = List.range m ++ (List.range' m (l.length - m)) := by
        rw [List.range_eq_range', List.range_eq_range']
        have := List.range'_append (s := 0) (m := m) (n := l.length - m) (step := 1)
        simp only [Nat.one_mul, Nat.zero_add] at this
        rw [this]
        congr 1
        omega
      rw [e, List.filter_append, List.length_append]
      have e2 : (List.range' m (l.length - m)).filter (fun j => !listed.getD j true) = List.range' m (l.length - m) := by
        apply List.filter_eq_self.2
        intro j hj
        rw [List.mem_range'_1] at hj
        have h1 := hl j hj.1
        have h2 : j < listed.size := by rw [hI.ls]; omega
        simp [h2] at h1 ⊢
        exact h1
      rw [e2, List.length_range']
      omega
    · refine hfin a w hI.size hI.defers hI.r (fun t ht => hI.keep t fun j hj => ?_) (fun j d hj h => hI.vals j d h (hall j hj)) (fun j o hj ho hd => hI.skips j o ho hd (hall j hj))
      rcases Nat.lt_or_ge j m with h | h
      · rw [ht j h] at hj; cases hj
      · exact hl j h
  induction fuel with
  | zero =>
    intro listed a w hf hl hI
    refine go 0 listed a w hf hl (fun j hj => ?_) hI
    by_cases h : listed.getD j false = true
    · exact h
    · exfalso
      have h0 : todo l listed = 0 := by omega
      have hjs : j < listed.size := by rw [hI.ls]; omega
      have hmem : j ∈ (List.range l.length).filter fun j => !listed.getD j true := by
        rw [List.mem_filter, List.mem_range]
        refine ⟨by omega, ?_⟩
        simp [hjs] at h ⊢
        exact h
      unfold todo at h0
      rw [List.length_eq_zero_iff.1 h0] at hmem
      cases hmem
  | succ fuel ih =>
    intro listed a w hf hl hI
    by_cases hall : ∀ j, j < m → listed.getD j false = true
    · exact go (fuel + 1) listed a w hf hl hall hI
    have bel : ∀ i, i ∈ Region.ready .any l.toArray listed → i < m := by
      intro i hi
      rcases Nat.lt_or_ge i m with h | h
      · exact h
      · exfalso
        apply hall
        intro j hj
        obtain ⟨h3, h4, h5⟩ := ready_waits hi
        have his : i < listed.size := by rw [hI.ls]; exact h4
        have h7 := hC
        simp only [chainFrom, List.all_eq_true, List.mem_range, Bool.or_eq_true, decide_eq_true_eq] at h7
        have h8 := (h7 i h4).resolve_left (by omega) j (by omega)
        have h9 := reaches_listed (Closed.set hI.closed h5) _ _ _ h8 (by simp [his])
        rwa [getD_set_ne false (by omega)] at h9
    refine ⟨fun hr => ?_, fun i hi => ?_⟩
    · exfalso
      exact hall fun j hj => all_listed hB hG hI.ls hr j (by omega)
    have him := bel i hi
    obtain ⟨h1, hil, hw0⟩ := ready_waits hi
    obtain ⟨o, ho'⟩ : ∃ o, l[i]? = some o := ⟨_, List.getElem?_eq_getElem hil⟩
    have his : i < listed.size := by rw [hI.ls]; exact hil
    have h1' : listed.getD i false = false := by
      simp [his] at h1 ⊢
      exact h1
    refine wpOp_mono ?_ (hstep i o ho' him a w hI.size hI.defers hI.r (fun t ht => hI.keep t fun j hj => ?_) (fun j d hd => ?_))
    · rintro a2 w2 ⟨v, rfl, hv, hR, hvu⟩
      refine ih _ _ _ ?_ ?_ ⟨?_, ?_, hRt _ _ _ hI.r hR, ?_, ?_, ?_, ?_, ?_⟩
      · have hlt : todo l (listed.setIfInBounds i true) < todo l listed := by
          unfold todo
          refine filter_length_lt (i := i) (fun x hx => ?_) ?_ ?_ _ (List.mem_range.2 hil)
          · by_cases hxi : i = x
            · subst hxi; simp [his] at hx
            · rw [getD_set_ne true hxi] at hx; exact hx
          · simp [his]
          · rw [h1]; rfl
        omega
      · intro j hj
        rw [getD_set_ne false (by omega)]
        exact hl j hj
      · simp [hI.ls]
      · exact Closed.set hI.closed hw0
      · rw [← hI.size]
        cases o.dst <;> simp [Act.put]
      · rw [← hI.defers]
        cases o.dst <;> simp [Act.put]
      · intro j d hw hj
        by_cases hji : i = j
        · subst hji
          obtain ⟨o', ho2, hd⟩ := writes_iff.1 hw
          rw [ho'] at ho2
          injection ho2 with ho2
          subst ho2
          rw [hd, eval_put_same]
          · exact hv
          · rw [hI.size]
            have h2 := hsz
            simp only [dstsBelow, List.all_eq_true] at h2
            have h3 := h2 o (List.mem_of_getElem? ho')
            rw [hd] at h3
            simpa using h3
        · rw [getD_set_ne false hji] at hj
          have hne : ∀ d', o.dst = some d' → d' ≠ d := by
            rintro d' hd' rfl
            have h2 := hD
            simp only [dstApart, List.all_eq_true, List.mem_range, Bool.or_eq_true, beq_iff_eq] at h2
            obtain ⟨oj, hoj, _⟩ := writes_iff.1 hw
            rcases h2 i hil j (List.getElem?_eq_some_iff.1 hoj).1 with h3 | h3
            · exact hji h3
            · rw [ho'] at h3
              simp only [Option.bind_some, hd', hw] at h3
              cases h3
          have he : (a.put o.dst v).eval (.tmp d) = a.eval (.tmp d) := by
            cases hod : o.dst with
            | none => rfl
            | some d' => exact eval_put_other _ _ _ _ (hne d' hod)
          rw [he]
          exact hV _ _ _ _ (hI.vals j d hw hj) hR
      · intro j o2 ho2 hd2 hj
        by_cases hji : i = j
        · subst hji
          rw [ho'] at ho2
          injection ho2 with ho2
          subst ho2
          rw [← hvu hd2]
          exact hv
        · rw [getD_set_ne false hji] at hj
          exact hV _ _ _ _ (hI.skips j o2 ho2 hd2 hj) hR
      · intro t ht
        have hne : o.dst ≠ some t := by
          intro hd
          have h2 := ht i (writes_iff.2 ⟨o, ho', hd⟩)
          simp [his] at h2
        have he : (a.put o.dst v).eval (.tmp t) = a.eval (.tmp t) := by
          cases hod : o.dst with
          | none => rfl
          | some d' => exact eval_put_other _ _ _ _ (fun e => hne (by rw [hod, e]))
        rw [he]
        refine hI.keep t fun j hj => ?_
        have h2 := ht j hj
        by_cases hji : i = j
        · subst hji; exact h1'
        · rwa [getD_set_ne false hji] at h2
    · by_cases h2 : listed.getD j false = true
      · exfalso
        simp only [lateSlot, List.all_eq_true, List.mem_range, Bool.or_eq_true, Bool.not_eq_true', beq_iff_eq] at ht
        obtain ⟨oj, hoj, _⟩ := writes_iff.1 hj
        rcases ht j (List.getElem?_eq_some_iff.1 hoj).1 with (h3 | h3) | h3
        · rw [hj] at h3; cases h3
        · subst h3; rw [h1'] at h2; cases h2
        · have := hI.closed j i h2 h3
          rw [h1'] at this; cases this
      · simpa using h2
    · simp only [dep, Bool.and_eq_true] at hd
      exact hI.vals _ d hd.2 (hw0 j hd.1)

/-- Each operation of a list, with its number. -/
def Each (S : Nat → Oper → Prop) : Nat → List Oper → Prop
  | _, [] => True
  | k, o :: r => S k o ∧ Each S (k + 1) r
theorem Each.at {S : Nat → Oper → Prop} : ∀ {k : Nat} {l : List Oper}, Each S k l → ∀ i o, l[i]? = some o → S (k + i) o
  | _, [], _, i, o, h => by simp at h
  | k, x :: r, h, 0, o, ho => by
    simp at ho
    subst ho
    exact h.1
  | k, x :: r, h, i + 1, o, ho => by
    have := Each.at h.2 i o (by simpa using ho)
    rwa [show k + (i + 1) = k + 1 + i by omega]

/-- What one operation must show. -/
def Shows (P : Program) (Q : Exit → Act → World → Prop) (l : List Oper) (R : World → World → Prop) (V : Nat → Value → World → Prop) (a0 : Act) (w0 : World) (i : Nat) (o : Oper) : Prop :=
  ∀ a w, a.tmps.size = a0.tmps.size → a.defers = a0.defers → R w0 w →
      (∀ t, lateSlot l i t = true → a.eval (.tmp t) = a0.eval (.tmp t)) → (∀ j d, dep l i j d = true → V j (a.eval (.tmp d)) w) →
      wpOp P l.toArray Q i (fun a2 w2 => ∃ v, a2 = a.put o.dst v ∧ V i v w2 ∧ R w w2 ∧ (o.dst = none → v = undef)) a w

/-- Each operation of the first m, with its number. -/
def EachTo (S : Nat → Oper → Prop) (m : Nat) (l : List Oper) : Prop := Each S 0 (l.take m)

/-- THE LAW: the first m operations in whatever order, the others in theirs. -/
theorem wp_region_mono {id : Nat} {a : Act} {w : World} (m : Nat) (R : World → World → Prop) (V : Nat → Value → World → Prop) (hm : P.follows .mixedOrders = true)
    (hok : (backEdges l && inRange l && dstApart l && chainFrom l m && decide (m ≤ l.length)) = true) (n : Nat) (hn : a.tmps.size = n) (hsz : dstsBelow l n = true)
    (hRr : ∀ w, R w w) (hRt : ∀ a b c, R a b → R b c → R a c) (hV : ∀ j v w w', V j v w → R w w' → V j v w')
    (hstep : EachTo (Shows P Q l R V a w.drew) m l)
    (hfin : ∀ a' w', a'.tmps.size = a.tmps.size → a'.defers = a.defers → R w.drew w' → (∀ t, idleSlot (l.take m) t = true → a'.eval (.tmp t) = a.eval (.tmp t)) →
      (∀ j d, writes (l.take m) j d = true → V j (a'.eval (.tmp d)) w') → wpList P l.toArray Q (l.drop m) a' w') :
    (Code.region id l.toArray true).wp P Q a w := by
  simp only [Bool.and_eq_true, decide_eq_true_eq] at hok
  obtain ⟨⟨⟨⟨hB, hG⟩, hD⟩, hC⟩, hml⟩ := hok
  subst hn
  refine wp_region_any hm ?_
  have hs : l.toArray.size = l.length := by simp
  rw [hs]
  have hrep : ∀ j, (Array.replicate l.length false).getD j false = false := fun j => by
    by_cases h : j < l.length <;> simp [h]
  have htake : ∀ j, j < m → (l.take m)[j]? = l[j]? := fun j hj => by rw [List.getElem?_take, if_pos hj]
  refine wpAny_mono (a0 := a) (w0 := w.drew) hB hG hD hml hC hsz hRt hV (fun i o ho him => by
    have h := Each.at hstep i o (by rw [htake i him]; exact ho)
    rw [Nat.zero_add] at h
    exact h) (fun a' w' h1 h2 h3 h4 h5 _ => hfin a' w' h1 h2 h3 (fun t ht => h4 t fun j hj => ?_) (fun j d hjd => ?_)) _ _ _ _ ?_ (fun j _ => hrep j) ⟨?_, ?_, hRr _, rfl, rfl, ?_, ?_, fun _ _ => rfl⟩
  · simp only [idleSlot, List.all_eq_true, List.mem_range, Bool.not_eq_true', List.length_take] at ht
    have h6 := ht j (by omega)
    unfold writes at h6 ⊢
    rwa [htake j hj] at h6
  · obtain ⟨o, ho, hd⟩ := writes_iff.1 hjd
    have hj : j < m := by
      have := (List.getElem?_eq_some_iff.1 ho).1
      simp at this
      omega
    exact h5 j d hj (writes_iff.2 ⟨o, by rw [← htake j hj]; exact ho, hd⟩)
  · exact Nat.le_trans (List.length_filter_le _ _) (by simp)
  · simp
  · intro j i hj
    rw [hrep] at hj
    cases hj
  · intro j d _ hj
    rw [hrep] at hj
    cases hj
  · intro j o _ _ hj
    rw [hrep] at hj
    cases hj
end
end Go.Proofs.Ytkjapcmnopnblaa
