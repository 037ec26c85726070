/- The plain side of a digest: a text filled up, its hash, what a digest holds behind a text. -/
import Derived.Test.YtkjapcmnopnblaaMd
namespace Go.Proofs.Ytkjapcmnopnblaa.Md

/-- The state at first. -/
def init : St := ⟨0x67452301, 0xefcdab89, 0x98badcfe, 0x10325476⟩
/-- Eight bytes of a number, the lowest first. -/
def le64 (n : Nat) : List UInt8 := (List.range 8).map fun k => UInt8.ofNat (n / 2 ^ (8 * k))
/-- How many noughts fill a text of n bytes up. -/
def padz (n : Nat) : Nat := (119 - n % 64) % 64
/-- What fills a text of n bytes up. -/
def pad (n : Nat) : List UInt8 := 128 :: (List.replicate (padz n) 0 ++ le64 (8 * n))
def padded (m : List UInt8) : List UInt8 := m ++ pad m.length
/-- Four bytes of a word, the lowest first. -/
def lo32 (w : W) : List UInt8 := [UInt8.ofNat w.toNat, UInt8.ofNat (w.toNat / 256), UInt8.ofNat (w.toNat / 65536), UInt8.ofNat (w.toNat / 16777216)]
def low (s : St) : List UInt8 := lo32 s.a ++ (lo32 s.b ++ (lo32 s.c ++ lo32 s.d))
/-- The hash of a text. -/
def md5 (m : List UInt8) : List UInt8 := low (blks init (padded m))

theorem le64_length (n : Nat) : (le64 n).length = 8 := by simp [le64]
theorem low_length (s : St) : (low s).length = 16 := by simp [low, lo32]
theorem md5_length (m : List UInt8) : (md5 m).length = 16 := low_length _
theorem pad_length (n : Nat) : (pad n).length = padz n + 9 := by simp [pad, le64_length]
theorem padded_length (m : List UInt8) : (padded m).length % 64 = 0 := by
  simp only [padded, List.length_append, pad_length, padz]
  omega

/-- What a digest holds behind the text m: its state, its bytes that wait, how many of them count. -/
structure Rp (s : St) (xs : List UInt8) (nx : Nat) (m : List UInt8) : Prop where
  ix : nx = m.length % 64
  st : s = blks init m
  tail : xs.take nx = m.drop (m.length - nx)
  len : xs.length = 64

theorem blks_tail (s : St) (m p : List UInt8) : blks s (m ++ p) = blks (blks s m) (m.drop (m.length - m.length % 64) ++ p) := by
  have e : m ++ p = m.take (m.length - m.length % 64) ++ (m.drop (m.length - m.length % 64) ++ p) := by
    rw [← List.append_assoc, List.take_append_drop]
  have h1 : (m.take (m.length - m.length % 64)).length % 64 = 0 := by simp; omega
  have h2 : blks s m = blks s (m.take (m.length - m.length % 64)) := by
    rw [show m.length - m.length % 64 = 64 * (m.length / 64) by omega, blks_whole]
  rw [h2]
  conv => lhs; rw [e]
  rw [blks_append _ _ _ h1]
theorem rp_fill {s : St} {xs : List UInt8} {nx : Nat} {m : List UInt8} (h : Rp s xs nx m) (p : List UInt8) (hl : nx + p.length < 64) :
    Rp s (xs.take nx ++ p ++ xs.drop (nx + p.length)) (nx + p.length) (m ++ p) := by
  obtain ⟨h1, h2, h3, h4⟩ := h
  refine ⟨by rw [List.length_append]; omega, ?_, ?_, by simp; omega⟩
  · rw [blks_tail, ← h2, blks_short _ _ (by simp; omega)]
  · have e : (xs.take nx ++ p).length = nx + p.length := by simp; omega
    rw [List.take_append_of_le_length (by omega), List.take_of_length_le (by omega), h3, List.drop_append_of_le_length (by rw [List.length_append]; omega)]
    congr 2
    simp
    omega
theorem rp_full {s : St} {xs : List UInt8} {nx : Nat} {m : List UInt8} (h : Rp s xs nx m) (p ys : List UInt8) (hl : nx + p.length = 64) (hy : ys.length = 64) :
    Rp (blks s (xs.take nx ++ p)) ys 0 (m ++ p) := by
  obtain ⟨h1, h2, h3, h4⟩ := h
  refine ⟨by rw [List.length_append]; omega, ?_, by simp, hy⟩
  rw [blks_tail init m p, ← h2, h3, h1]
theorem rp_whole {s : St} {xs : List UInt8} {m : List UInt8} (h : Rp s xs 0 m) (p : List UInt8) (hp : p.length % 64 = 0) :
    Rp (blks s p) xs 0 (m ++ p) := by
  obtain ⟨h1, h2, h3, h4⟩ := h
  refine ⟨by rw [List.length_append]; omega, ?_, by simp, h4⟩
  rw [blks_append _ _ _ h1.symm, ← h2]
theorem rp_init {xs : List UInt8} (h : xs.length = 64) : Rp init xs 0 [] := ⟨rfl, (blks_nil _).symm, by simp, h⟩
theorem rp_state {s : St} {xs : List UInt8} {m : List UInt8} (h : Rp s xs 0 (padded m)) : low s = md5 m := by
  unfold md5; rw [h.st]
end Go.Proofs.Ytkjapcmnopnblaa.Md
