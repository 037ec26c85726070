/- The plain side of MD5: words, rounds, blocks, padding, the state behind a text. No Go and no program here. -/
namespace Go.Proofs.Ytkjapcmnopnblaa.Md

abbrev W := BitVec 32

/-- The four words of a state. -/
structure St where
  a : W
  b : W
  c : W
  d : W

def rotl (x : W) (k : Nat) : W := x <<< k ||| x >>> (32 - k)

def kTab : List Nat := [
  0xd76aa478, 0xe8c7b756, 0x242070db, 0xc1bdceee, 0xf57c0faf, 0x4787c62a, 0xa8304613, 0xfd469501,
  0x698098d8, 0x8b44f7af, 0xffff5bb1, 0x895cd7be, 0x6b901122, 0xfd987193, 0xa679438e, 0x49b40821,
  0xf61e2562, 0xc040b340, 0x265e5a51, 0xe9b6c7aa, 0xd62f105d, 0x02441453, 0xd8a1e681, 0xe7d3fbc8,
  0x21e1cde6, 0xc33707d6, 0xf4d50d87, 0x455a14ed, 0xa9e3e905, 0xfcefa3f8, 0x676f02d9, 0x8d2a4c8a,
  0xfffa3942, 0x8771f681, 0x6d9d6122, 0xfde5380c, 0xa4beea44, 0x4bdecfa9, 0xf6bb4b60, 0xbebfbc70,
  0x289b7ec6, 0xeaa127fa, 0xd4ef3085, 0x04881d05, 0xd9d4d039, 0xe6db99e5, 0x1fa27cf8, 0xc4ac5665,
  0xf4292244, 0x432aff97, 0xab9423a7, 0xfc93a039, 0x655b59c3, 0x8f0ccc92, 0xffeff47d, 0x85845dd1,
  0x6fa87e4f, 0xfe2ce6e0, 0xa3014314, 0x4e0811a1, 0xf7537e82, 0xbd3af235, 0x2ad7d2bb, 0xeb86d391]
/-- The number of round t. -/
def kk (t : Nat) : W := BitVec.ofNat 32 (kTab.getD t 0)
/-- How far round t turns. -/
def ss (t : Nat) : Nat :=
  (match t / 16 with
   | 0 => [7, 12, 17, 22]
   | 1 => [5, 9, 14, 20]
   | 2 => [4, 11, 16, 23]
   | _ => [6, 10, 15, 21]).getD (t % 4) 0
/-- Which word of the block round t takes. -/
def gg (t : Nat) : Nat :=
  match t / 16 with
  | 0 => t
  | 1 => (5 * t + 1) % 16
  | 2 => (3 * t + 5) % 16
  | _ => 7 * t % 16
/-- The choice of round t. -/
def ff (t : Nat) (b c d : W) : W :=
  match t / 16 with
  | 0 => b &&& c ||| ~~~b &&& d
  | 1 => b &&& d ||| c &&& ~~~d
  | 2 => b ^^^ c ^^^ d
  | _ => c ^^^ (b ||| ~~~d)
def stp (X : Nat → W) (t : Nat) (s : St) : St :=
  ⟨s.d, s.b + rotl (s.a + ff t s.b s.c s.d + X (gg t) + kk t) (ss t), s.b, s.c⟩
def rounds (X : Nat → W) : Nat → St → St
  | 0, s => s
  | t + 1, s => stp X t (rounds X t s)
def addS (s t : St) : St := ⟨s.a + t.a, s.b + t.b, s.c + t.c, s.d + t.d⟩

def w8 (b : UInt8) : W := BitVec.ofNat 32 b.toNat
/-- A word out of four bytes, the lowest first. -/
def le32 (b0 b1 b2 b3 : UInt8) : W := w8 b0 ||| w8 b1 <<< 8 ||| w8 b2 <<< 16 ||| w8 b3 <<< 24
def wordAt (p : List UInt8) (i : Nat) : W := le32 (p.getD (4 * i) 0) (p.getD (4 * i + 1) 0) (p.getD (4 * i + 2) 0) (p.getD (4 * i + 3) 0)
/-- A block of 64 bytes taken up. -/
def blk (s : St) (p : List UInt8) : St := addS s (rounds (wordAt p) 64 s)
/-- n blocks taken up. -/
def blksN : Nat → St → List UInt8 → St
  | 0, s, _ => s
  | n + 1, s, p => blksN n (blk s (p.take 64)) (p.drop 64)
/-- All whole blocks taken up. -/
def blks (s : St) (p : List UInt8) : St := blksN (p.length / 64) s p

/-! The bit identities. -/
theorem f1 (b c d : W) : ((c ^^^ d) &&& b) ^^^ d = (b &&& c ||| ~~~b &&& d) := by
  ext i hi
  simp only [BitVec.getElem_xor, BitVec.getElem_and, BitVec.getElem_or, BitVec.getElem_not]
  cases b[i] <;> cases c[i] <;> cases d[i] <;> rfl
theorem f2 (b c d : W) : ((b ^^^ c) &&& d) ^^^ c = (b &&& d ||| c &&& ~~~d) := by
  ext i hi
  simp only [BitVec.getElem_xor, BitVec.getElem_and, BitVec.getElem_or, BitVec.getElem_not]
  cases b[i] <;> cases c[i] <;> cases d[i] <;> rfl

/-! Blocks one behind the other. -/
theorem blksN_add (n m : Nat) (s : St) (p : List UInt8) : blksN (n + m) s p = blksN m (blksN n s p) (p.drop (64 * n)) := by
  induction n generalizing s p with
  | zero => simp [blksN]
  | succ n ih =>
    rw [show n + 1 + m = (n + m) + 1 by omega]
    simp only [blksN]
    rw [ih, List.drop_drop]
    congr 2
    omega
theorem blksN_take (n : Nat) (s : St) (p q : List UInt8) (h : 64 * n ≤ p.length) : blksN n s (p ++ q) = blksN n s p := by
  induction n generalizing s p with
  | zero => rfl
  | succ n ih =>
    simp only [blksN]
    rw [List.take_append_of_le_length (by omega), List.drop_append_of_le_length (by omega), ih _ _ (by simp; omega)]
theorem blks_append (s : St) (p q : List UInt8) (h : p.length % 64 = 0) : blks s (p ++ q) = blks (blks s p) q := by
  unfold blks
  rw [List.length_append, show (p.length + q.length) / 64 = p.length / 64 + q.length / 64 by omega, blksN_add, blksN_take _ _ _ _ (by omega),
    show 64 * (p.length / 64) = p.length by omega, List.drop_left]
theorem blks_nil (s : St) : blks s [] = s := rfl
theorem blks_short (s : St) (p : List UInt8) (h : p.length < 64) : blks s p = s := by
  unfold blks
  rw [show p.length / 64 = 0 by omega]
  rfl
theorem blks_one (s : St) (p : List UInt8) (h : p.length = 64) : blks s p = blk s p := by
  unfold blks
  rw [h]
  simp only [blksN, Nat.reduceDiv]
  rw [List.take_of_length_le (by omega)]
theorem blks_step (s : St) (p : List UInt8) (h : 64 ≤ p.length) : blks s p = blks (blk s (p.take 64)) (p.drop 64) := by
  unfold blks
  rw [show p.length / 64 = (p.drop 64).length / 64 + 1 by simp; omega]
  rfl
/-- Only the whole blocks count. -/
theorem blks_whole (s : St) (p : List UInt8) : blks s (p.take (64 * (p.length / 64))) = blks s p := by
  unfold blks
  have hl : (p.take (64 * (p.length / 64))).length / 64 = p.length / 64 := by simp; omega
  rw [hl]
  have h := blksN_take (p.length / 64) s (p.take (64 * (p.length / 64))) (p.drop (64 * (p.length / 64))) (by simp; omega)
  rw [List.take_append_drop] at h
  exact h.symm

end Go.Proofs.Ytkjapcmnopnblaa.Md
