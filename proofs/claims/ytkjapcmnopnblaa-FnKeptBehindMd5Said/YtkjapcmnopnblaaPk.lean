/- The plain side of a digest that is kept as bytes. -/
import Derived.Test.YtkjapcmnopnblaaPl
namespace Go.Proofs.Ytkjapcmnopnblaa.Md

/-- Four, eight bytes of a number, the highest first. -/
def be32 (w : W) : List UInt8 := [UInt8.ofNat (w.toNat / 16777216), UInt8.ofNat (w.toNat / 65536), UInt8.ofNat (w.toNat / 256), UInt8.ofNat w.toNat]
def be64 (n : Nat) : List UInt8 := [UInt8.ofNat (n / 72057594037927936), UInt8.ofNat (n / 281474976710656), UInt8.ofNat (n / 1099511627776), UInt8.ofNat (n / 4294967296), UInt8.ofNat (n / 16777216), UInt8.ofNat (n / 65536), UInt8.ofNat (n / 256), UInt8.ofNat n]
/-- The bytes of a state. -/
def beS (s : St) : List UInt8 := be32 s.a ++ (be32 s.b ++ (be32 s.c ++ be32 s.d))
/-- What is kept of the text m. -/
def kept (m : List UInt8) : List UInt8 := [109, 100, 53, 1] ++ (beS (blks init m) ++ (m.drop (m.length - m.length % 64) ++ (List.replicate (64 - m.length % 64) 0 ++ be64 m.length)))
theorem kept_length (m : List UInt8) : (kept m).length = 92 := by
  simp [kept, beS, be32, be64]
  omega
end Go.Proofs.Ytkjapcmnopnblaa.Md
