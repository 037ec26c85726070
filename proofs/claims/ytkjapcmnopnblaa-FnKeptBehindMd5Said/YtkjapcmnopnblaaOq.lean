/- Frames of a known size are written out. -/
import Derived.Test.YtkjapcmnopnblaaSt
namespace Go.Proofs.Ytkjapcmnopnblaa
open Go

theorem cons_of_60 {n : Nat} (l : List Value) (h : l.length = n + 1) : ∃ x r, l = x :: r ∧ r.length = n := by
  cases l with
  | nil => cases h
  | cons x r => exact ⟨x, r, rfl, by simpa using h⟩
set_option maxRecDepth 100000 in
theorem open60 (p : Act → Prop) (h : ∀ u0 u1 u2 u3 u4 u5 u6 u7 u8 u9 u10 u11 u12 u13 u14 u15 u16 u17 u18 u19 u20 u21 u22 u23 u24 u25 u26 u27 u28 u29 u30 u31 u32 u33 u34 u35 u36 u37 u38 u39 u40 u41 u42 u43 u44 u45 u46 u47 u48 u49 u50 u51 u52 u53 u54 u55 u56 u57 u58 u59 : Value, p ⟨#[u0, u1, u2, u3, u4, u5, u6, u7, u8, u9, u10, u11, u12, u13, u14, u15, u16, u17, u18, u19, u20, u21, u22, u23, u24, u25, u26, u27, u28, u29, u30, u31, u32, u33, u34, u35, u36, u37, u38, u39, u40, u41, u42, u43, u44, u45, u46, u47, u48, u49, u50, u51, u52, u53, u54, u55, u56, u57, u58, u59], []⟩) (a : Act) (hs : a.tmps.size = 60) (hd : a.defers = []) : p a := by
  obtain ⟨⟨l⟩, d⟩ := a
  obtain rfl : d = [] := hd
  have hl0 : l.length = 60 := hs
  obtain ⟨u0, l1, rfl, hl1⟩ := cons_of_60 l hl0
  obtain ⟨u1, l2, rfl, hl2⟩ := cons_of_60 l1 hl1
  obtain ⟨u2, l3, rfl, hl3⟩ := cons_of_60 l2 hl2
  obtain ⟨u3, l4, rfl, hl4⟩ := cons_of_60 l3 hl3
  obtain ⟨u4, l5, rfl, hl5⟩ := cons_of_60 l4 hl4
  obtain ⟨u5, l6, rfl, hl6⟩ := cons_of_60 l5 hl5
  obtain ⟨u6, l7, rfl, hl7⟩ := cons_of_60 l6 hl6
  obtain ⟨u7, l8, rfl, hl8⟩ := cons_of_60 l7 hl7
  obtain ⟨u8, l9, rfl, hl9⟩ := cons_of_60 l8 hl8
  obtain ⟨u9, l10, rfl, hl10⟩ := cons_of_60 l9 hl9
  obtain ⟨u10, l11, rfl, hl11⟩ := cons_of_60 l10 hl10
  obtain ⟨u11, l12, rfl, hl12⟩ := cons_of_60 l11 hl11
  obtain ⟨u12, l13, rfl, hl13⟩ := cons_of_60 l12 hl12
  obtain ⟨u13, l14, rfl, hl14⟩ := cons_of_60 l13 hl13
  obtain ⟨u14, l15, rfl, hl15⟩ := cons_of_60 l14 hl14
  obtain ⟨u15, l16, rfl, hl16⟩ := cons_of_60 l15 hl15
  obtain ⟨u16, l17, rfl, hl17⟩ := cons_of_60 l16 hl16
  obtain ⟨u17, l18, rfl, hl18⟩ := cons_of_60 l17 hl17
  obtain ⟨u18, l19, rfl, hl19⟩ := cons_of_60 l18 hl18
  obtain ⟨u19, l20, rfl, hl20⟩ := cons_of_60 l19 hl19
  obtain ⟨u20, l21, rfl, hl21⟩ := cons_of_60 l20 hl20
  obtain ⟨u21, l22, rfl, hl22⟩ := cons_of_60 l21 hl21
  obtain ⟨u22, l23, rfl, hl23⟩ := cons_of_60 l22 hl22
  obtain ⟨u23, l24, rfl, hl24⟩ := cons_of_60 l23 hl23
  obtain ⟨u24, l25, rfl, hl25⟩ := cons_of_60 l24 hl24
  obtain ⟨u25, l26, rfl, hl26⟩ := cons_of_60 l25 hl25
  obtain ⟨u26, l27, rfl, hl27⟩ := cons_of_60 l26 hl26
  obtain ⟨u27, l28, rfl, hl28⟩ := cons_of_60 l27 hl27
  obtain ⟨u28, l29, rfl, hl29⟩ := cons_of_60 l28 hl28
  obtain ⟨u29, l30, rfl, hl30⟩ := cons_of_60 l29 hl29
  obtain ⟨u30, l31, rfl, hl31⟩ := cons_of_60 l30 hl30
  obtain ⟨u31, l32, rfl, hl32⟩ := cons_of_60 l31 hl31
  obtain ⟨u32, l33, rfl, hl33⟩ := cons_of_60 l32 hl32
  obtain ⟨u33, l34, rfl, hl34⟩ := cons_of_60 l33 hl33
  obtain ⟨u34, l35, rfl, hl35⟩ := cons_of_60 l34 hl34
  obtain ⟨u35, l36, rfl, hl36⟩ := cons_of_60 l35 hl35
  obtain ⟨u36, l37, rfl, hl37⟩ := cons_of_60 l36 hl36
  obtain ⟨u37, l38, rfl, hl38⟩ := cons_of_60 l37 hl37
  obtain ⟨u38, l39, rfl, hl39⟩ := cons_of_60 l38 hl38
  obtain ⟨u39, l40, rfl, hl40⟩ := cons_of_60 l39 hl39
  obtain ⟨u40, l41, rfl, hl41⟩ := cons_of_60 l40 hl40
  obtain ⟨u41, l42, rfl, hl42⟩ := cons_of_60 l41 hl41
  obtain ⟨u42, l43, rfl, hl43⟩ := cons_of_60 l42 hl42
  obtain ⟨u43, l44, rfl, hl44⟩ := cons_of_60 l43 hl43
  obtain ⟨u44, l45, rfl, hl45⟩ := cons_of_60 l44 hl44
  obtain ⟨u45, l46, rfl, hl46⟩ := cons_of_60 l45 hl45
  obtain ⟨u46, l47, rfl, hl47⟩ := cons_of_60 l46 hl46
  obtain ⟨u47, l48, rfl, hl48⟩ := cons_of_60 l47 hl47
  obtain ⟨u48, l49, rfl, hl49⟩ := cons_of_60 l48 hl48
  obtain ⟨u49, l50, rfl, hl50⟩ := cons_of_60 l49 hl49
  obtain ⟨u50, l51, rfl, hl51⟩ := cons_of_60 l50 hl50
  obtain ⟨u51, l52, rfl, hl52⟩ := cons_of_60 l51 hl51
  obtain ⟨u52, l53, rfl, hl53⟩ := cons_of_60 l52 hl52
  obtain ⟨u53, l54, rfl, hl54⟩ := cons_of_60 l53 hl53
  obtain ⟨u54, l55, rfl, hl55⟩ := cons_of_60 l54 hl54
  obtain ⟨u55, l56, rfl, hl56⟩ := cons_of_60 l55 hl55
  obtain ⟨u56, l57, rfl, hl57⟩ := cons_of_60 l56 hl56
  obtain ⟨u57, l58, rfl, hl58⟩ := cons_of_60 l57 hl57
  obtain ⟨u58, l59, rfl, hl59⟩ := cons_of_60 l58 hl58
  obtain ⟨u59, l60, rfl, hl60⟩ := cons_of_60 l59 hl59
  obtain rfl := List.eq_nil_of_length_eq_zero hl60
  exact h u0 u1 u2 u3 u4 u5 u6 u7 u8 u9 u10 u11 u12 u13 u14 u15 u16 u17 u18 u19 u20 u21 u22 u23 u24 u25 u26 u27 u28 u29 u30 u31 u32 u33 u34 u35 u36 u37 u38 u39 u40 u41 u42 u43 u44 u45 u46 u47 u48 u49 u50 u51 u52 u53 u54 u55 u56 u57 u58 u59
end Go.Proofs.Ytkjapcmnopnblaa
