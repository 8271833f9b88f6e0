/-
  What the protocol writes, in plain words: numbers, texts, octets, tags; and what is read of it again. No program in it.
-/
import Derived.Lib.EndianBits
import Derived.Test.YtcldbjehliladaaDoorPTh
set_option linter.unusedSimpArgs false
set_option linter.unusedVariables false
namespace Go.Proofs.YtcldbjehliladaaDoor
open Go Go.RowKit
/-- a number's lowest octet -/
def oct8 (n : Int) : UInt8 := UInt8.ofNat (n % 256).toNat
theorem oct8_val (n : Int) : ((oct8 n).toNat : Int) = n % 256 := by
 have h0 : 0 <= n % 256 := Int.emod_nonneg _ (by decide)
 have h1 : n % 256 < 256 := Int.emod_lt_of_pos _ (by decide)
 have : (oct8 n).toNat = (n % 256).toNat := by
  simp only [oct8, UInt8.toNat_ofNat']
  omega
 rw [this]; omega
/-- a number in so many octets, the highest first -/
def fixedE (n : Int) (size : Nat) : List UInt8 := (List.range size).map fun i => oct8 (n / (256 : Int) ^ (size - 1 - i))
theorem fixed2 (n : Int) : fixedE n 2 = [oct8 (n / 256), oct8 n] := by simp [fixedE, List.range, List.range.loop]
theorem fixed4 (n : Int) : fixedE n 4 = [oct8 (n / 16777216), oct8 (n / 65536), oct8 (n / 256), oct8 n] := by simp [fixedE, List.range, List.range.loop]
theorem fixed8 (n : Int) : fixedE n 8 = [oct8 (n / 72057594037927936), oct8 (n / 281474976710656), oct8 (n / 1099511627776), oct8 (n / 4294967296), oct8 (n / 16777216), oct8 (n / 65536), oct8 (n / 256), oct8 n] := by
 simp [fixedE, List.range, List.range.loop]
theorem fixedE_length (n : Int) (size : Nat) : (fixedE n size).length = size := by simp [fixedE]
theorem u8_lt (x : UInt8) : (x.toNat : Int) < 256 := by have := x.toNat_lt; omega
theorem be16_val (x0 x1 : UInt8) : be16 x0 x1 = x0.toNat * 256 + x1.toNat := by
 have h0 := u8_lt x0
 have h1 := u8_lt x1
 unfold be16
 rw [show ((x1.toNat : Int) % 65536) = x1.toNat by omega, show ((x0.toNat : Int) % 65536) * 256 % 65536 = x0.toNat * 256 by omega, u16_or8 _ _ (by omega) (by omega) (by omega) (by omega) (by omega)]
 omega
theorem be32_val (x0 x1 x2 x3 : UInt8) : be32 x0 x1 x2 x3 = x0.toNat * 16777216 + x1.toNat * 65536 + x2.toNat * 256 + x3.toNat := by
 have h0 := u8_lt x0
 have h1 := u8_lt x1
 have h2 := u8_lt x2
 have h3 := u8_lt x3
 unfold be32
 rw [show ((x3.toNat : Int) % 4294967296) = x3.toNat by omega, show ((x2.toNat : Int) % 4294967296) * 256 % 4294967296 = x2.toNat * 256 by omega, show ((x1.toNat : Int) % 4294967296) * 65536 % 4294967296 = x1.toNat * 65536 by omega,
  show ((x0.toNat : Int) % 4294967296) * 16777216 % 4294967296 = x0.toNat * 16777216 by omega, u32_or8 (x3.toNat : Int) (x2.toNat * 256) (by omega) (by omega) (by omega) (by omega) (by omega), u32_or16 (x3.toNat + x2.toNat * 256 : Int) (x1.toNat * 65536) (by omega) (by omega) (by omega) (by omega) (by omega), u32_or24 (x3.toNat + x2.toNat * 256 + x1.toNat * 65536 : Int) (x0.toNat * 16777216) (by omega) (by omega) (by omega) (by omega) (by omega)]
 omega
theorem be64_val (x0 x1 x2 x3 x4 x5 x6 x7 : UInt8) : be64 x0 x1 x2 x3 x4 x5 x6 x7 = x0.toNat * 72057594037927936 + x1.toNat * 281474976710656 + x2.toNat * 1099511627776 + x3.toNat * 4294967296 + x4.toNat * 16777216 + x5.toNat * 65536 + x6.toNat * 256 + x7.toNat := by
 have h0 := u8_lt x0
 have h1 := u8_lt x1
 have h2 := u8_lt x2
 have h3 := u8_lt x3
 have h4 := u8_lt x4
 have h5 := u8_lt x5
 have h6 := u8_lt x6
 have h7 := u8_lt x7
 unfold be64
 rw [show ((x7.toNat : Int) % 18446744073709551616) = x7.toNat by omega, show ((x6.toNat : Int) % 18446744073709551616) * 256 % 18446744073709551616 = x6.toNat * 256 by omega, show ((x5.toNat : Int) % 18446744073709551616) * 65536 % 18446744073709551616 = x5.toNat * 65536 by omega,
  show ((x4.toNat : Int) % 18446744073709551616) * 16777216 % 18446744073709551616 = x4.toNat * 16777216 by omega, show ((x3.toNat : Int) % 18446744073709551616) * 4294967296 % 18446744073709551616 = x3.toNat * 4294967296 by omega,
  show ((x2.toNat : Int) % 18446744073709551616) * 1099511627776 % 18446744073709551616 = x2.toNat * 1099511627776 by omega, show ((x1.toNat : Int) % 18446744073709551616) * 281474976710656 % 18446744073709551616 = x1.toNat * 281474976710656 by omega,
  show ((x0.toNat : Int) % 18446744073709551616) * 72057594037927936 % 18446744073709551616 = x0.toNat * 72057594037927936 by omega,
  u64_or8 (x7.toNat : Int) (x6.toNat * 256) (by omega) (by omega) (by omega) (by omega) (by omega), u64_or16 (x7.toNat + x6.toNat * 256 : Int) (x5.toNat * 65536) (by omega) (by omega) (by omega) (by omega) (by omega), u64_or24 (x7.toNat + x6.toNat * 256 + x5.toNat * 65536 : Int) (x4.toNat * 16777216) (by omega) (by omega) (by omega) (by omega) (by omega), u64_or32 (x7.toNat + x6.toNat * 256 + x5.toNat * 65536 + x4.toNat * 16777216 : Int) (x3.toNat * 4294967296) (by omega) (by omega) (by omega) (by omega) (by omega), u64_or40 (x7.toNat + x6.toNat * 256 + x5.toNat * 65536 + x4.toNat * 16777216 + x3.toNat * 4294967296 : Int) (x2.toNat * 1099511627776) (by omega) (by omega) (by omega) (by omega) (by omega), u64_or48 (x7.toNat + x6.toNat * 256 + x5.toNat * 65536 + x4.toNat * 16777216 + x3.toNat * 4294967296 + x2.toNat * 1099511627776 : Int) (x1.toNat * 281474976710656) (by omega) (by omega) (by omega) (by omega) (by omega), u64_or56 (x7.toNat + x6.toNat * 256 + x5.toNat * 65536 + x4.toNat * 16777216 + x3.toNat * 4294967296 + x2.toNat * 1099511627776 + x1.toNat * 281474976710656 : Int) (x0.toNat * 72057594037927936) (by omega) (by omega) (by omega) (by omega) (by omega)]
 omega
section
variable (n : Int) (r : List UInt8) (nl bad : Bool)
theorem rdInt16_w : rdInt16 ⟨fixedE n 2 ++ r, nl, bad⟩ = (IntKind.i16.wrap n, ⟨r, nl, bad⟩) := by
 rw [fixed2]
 simp only [rdInt16, List.cons_append, List.nil_append, be16_val, oct8_val]
 rw [show n / 256 % 256 * 256 + n % 256 = n % 65536 by omega]
 congr 1
 simp only [IntKind.wrap, IntKind.bits, IntKind.signed]
 simp
theorem rdInt32_w : rdInt32 ⟨fixedE n 4 ++ r, nl, bad⟩ = (wrap32 n, ⟨r, nl, bad⟩) := by
 rw [fixed4]
 simp only [rdInt32, List.cons_append, List.nil_append, be32_val, oct8_val]
 rw [show n / 16777216 % 256 * 16777216 + n / 65536 % 256 * 65536 + n / 256 % 256 * 256 + n % 256 = n % 4294967296 by omega]
 congr 1
 simp only [wrap32]
 omega
theorem rdInt64_w : rdInt64 ⟨fixedE n 8 ++ r, nl, bad⟩ = (wrap64 n, ⟨r, nl, bad⟩) := by
 rw [fixed8]
 simp only [rdInt64, rdreadUint64, List.cons_append, List.nil_append, be64_val, oct8_val]
 rw [show n / 72057594037927936 % 256 * 72057594037927936 + n / 281474976710656 % 256 * 281474976710656 + n / 1099511627776 % 256 * 1099511627776 + n / 4294967296 % 256 * 4294967296 + n / 16777216 % 256 * 16777216 + n / 65536 % 256 * 65536 + n / 256 % 256 * 256 + n % 256 = n % 18446744073709551616 by omega]
 congr 1
 simp only [wrap64]
 omega
end
/-- a number in groups of seven bits -/
def uvE (n : Nat) : List UInt8 := if h : 127 < n then UInt8.ofNat (n % 128 + 128) :: uvE (n / 128) else [UInt8.ofNat n]
termination_by n
theorem hi7_val (x : UInt8) : hi7 x = if x.toNat < 128 then 0 else 128 := by
 have h : ∀ i : Fin 256, bits BinOp.and IntKind.u8 (i.val : Int) 128 = if i.val < 128 then 0 else 128 := by decide +kernel
 exact h ⟨x.toNat, x.toNat_lt⟩
theorem lo7_val (x : UInt8) : lo7 x = x.toNat % 128 := by
 have h : ∀ i : Fin 256, bits BinOp.and IntKind.u8 (i.val : Int) 127 % 4294967296 = (i.val : Int) % 128 := by decide +kernel
 exact h ⟨x.toNat, x.toNat_lt⟩
theorem u32_or (i : Nat) (y x : Int) (hy₀ : 0 <= y) (hy : y < 2 ^ i) (hy₁ : y < 4294967296) (hx₀ : 0 <= x) (hx : x % 2 ^ i = 0) (hx₁ : x < 4294967296) : bits .or .u32 y x = y + x :=
 bits_join_low .u32 32 (by decide) wraps_u32 i y x hy₀ hy (by omega) hx₀ hx (by omega)
theorem uv2_val (x0 x1 : UInt8) : uv2 x0 x1 = x0.toNat % 128 + x1.toNat % 128 * 128 := by
 unfold uv2 uv1
 rw [lo7_val, lo7_val, show ((x1.toNat : Int) % 128 * 128) % 4294967296 = x1.toNat % 128 * 128 by omega, u32_or 7 _ _ (by omega) (by omega) (by omega) (by omega) (by omega) (by omega)]
theorem uv3_val (x0 x1 x2 : UInt8) : uv3 x0 x1 x2 = x0.toNat % 128 + x1.toNat % 128 * 128 + x2.toNat % 128 * 16384 := by
 unfold uv3
 rw [uv2_val, lo7_val, show ((x2.toNat : Int) % 128 * 16384) % 4294967296 = x2.toNat % 128 * 16384 by omega, u32_or 14 _ _ (by omega) (by omega) (by omega) (by omega) (by omega) (by omega)]
theorem uv4_val (x0 x1 x2 x3 : UInt8) : uv4 x0 x1 x2 x3 = x0.toNat % 128 + x1.toNat % 128 * 128 + x2.toNat % 128 * 16384 + x3.toNat % 128 * 2097152 := by
 unfold uv4
 rw [uv3_val, lo7_val, show ((x3.toNat : Int) % 128 * 2097152) % 4294967296 = x3.toNat % 128 * 2097152 by omega, u32_or 21 _ _ (by omega) (by omega) (by omega) (by omega) (by omega) (by omega)]
theorem uv5_val (x0 x1 x2 x3 x4 : UInt8) (h : x4.toNat <= 15) : uv5 x0 x1 x2 x3 x4 = x0.toNat % 128 + x1.toNat % 128 * 128 + x2.toNat % 128 * 16384 + x3.toNat % 128 * 2097152 + x4.toNat * 268435456 := by
 unfold uv5
 rw [uv4_val, u32_or 28 _ _ (by omega) (by omega) (by omega) (by omega) (by omega) (by omega)]
theorem uvE_small {n : Nat} (h : n <= 127) : uvE n = [UInt8.ofNat n] := by unfold uvE; rw [dif_neg (by omega)]
theorem uvE_big {n : Nat} (h : 127 < n) : uvE n = UInt8.ofNat (n % 128 + 128) :: uvE (n / 128) := by rw [uvE, dif_pos h]
theorem ofNat_val {n : Nat} (h : n < 256) : (UInt8.ofNat n).toNat = n := by simp only [UInt8.toNat_ofNat']; omega
/-- what is read of such a number -/
theorem uvDec_w (n : Nat) (hn : n < 4294967296) (r : List UInt8) : uvDec (uvE n ++ r) = ((n : Int), ((uvE n).length : Int)) := by
 have top : ∀ m : Nat, (UInt8.ofNat (m % 128 + 128)).toNat = m % 128 + 128 := fun m => ofNat_val (by omega)
 have hi : ∀ m : Nat, hi7 (UInt8.ofNat (m % 128 + 128)) ≠ 0 := fun m => by rw [hi7_val, top, if_neg (by omega)]; decide
 have lo : ∀ m : Nat, m <= 127 -> hi7 (UInt8.ofNat m) = 0 := fun m hm => by rw [hi7_val, ofNat_val (by omega), if_pos (by omega)]
 by_cases h1 : n <= 127
 ·rw [uvE_small h1]
  simp only [List.cons_append, List.nil_append, uvDec, lo n h1, if_true, uv1, lo7_val, ofNat_val (show n < 256 by omega), List.length_cons, List.length_nil]
  ext <;> simp <;> omega
 by_cases h2 : n <= 16383
 ·rw [uvE_big (by omega), uvE_small (n := n / 128) (by omega)]
  simp only [List.cons_append, List.nil_append, uvDec, if_neg (hi n), lo (n / 128) (by omega), if_true, uv2_val, top, ofNat_val (show n / 128 < 256 by omega), List.length_cons, List.length_nil]
  ext <;> simp <;> omega
 by_cases h3 : n <= 2097151
 ·rw [uvE_big (by omega), uvE_big (n := n / 128) (by omega), uvE_small (n := n / 128 / 128) (by omega)]
  simp only [List.cons_append, List.nil_append, uvDec, if_neg (hi n), if_neg (hi (n / 128)), lo (n / 128 / 128) (by omega), if_true, uv3_val, top, ofNat_val (show n / 128 / 128 < 256 by omega), List.length_cons, List.length_nil]
  ext <;> simp <;> omega
 by_cases h4 : n <= 268435455
 ·rw [uvE_big (by omega), uvE_big (n := n / 128) (by omega), uvE_big (n := n / 128 / 128) (by omega), uvE_small (n := n / 128 / 128 / 128) (by omega)]
  simp only [List.cons_append, List.nil_append, uvDec, if_neg (hi n), if_neg (hi (n / 128)), if_neg (hi (n / 128 / 128)), lo (n / 128 / 128 / 128) (by omega), if_true, uv4_val, top, ofNat_val (show n / 128 / 128 / 128 < 256 by omega), List.length_cons, List.length_nil]
  ext <;> simp <;> omega
 ·rw [uvE_big (by omega), uvE_big (n := n / 128) (by omega), uvE_big (n := n / 128 / 128) (by omega), uvE_big (n := n / 128 / 128 / 128) (by omega), uvE_small (n := n / 128 / 128 / 128 / 128) (by omega)]
  have h5 : (UInt8.ofNat (n / 128 / 128 / 128 / 128)).toNat = n / 128 / 128 / 128 / 128 := ofNat_val (by omega)
  simp only [List.cons_append, List.nil_append, uvDec, if_neg (hi n), if_neg (hi (n / 128)), if_neg (hi (n / 128 / 128)), if_neg (hi (n / 128 / 128 / 128)), List.length_cons, List.length_nil]
  rw [if_pos (by rw [h5]; omega), uv5_val _ _ _ _ _ (by rw [h5]; omega)]
  simp only [top, h5]
  ext <;> simp <;> omega
theorem uvE_pos (n : Nat) : 0 < (uvE n).length := by
 unfold uvE; split <;> simp
theorem rdUvarint_w (n : Nat) (hn : n < 4294967296) (r : List UInt8) (nl bad : Bool) : rdUvarint ⟨uvE n ++ r, nl, bad⟩ = ((n : Int), ⟨r, nl, bad⟩) := by
 have h0 := uvE_pos n
 unfold rdUvarint
 simp only [uvDec_w n hn r]
 rw [if_neg (by omega)]
 simp [RS.skip]
theorem rdSpan_w (b r : List UInt8) (nl bad : Bool) : rdSpan (b.length : Nat) ⟨b ++ r, nl, bad⟩ = ((b, nl), ⟨r, nl, bad⟩) := by
 unfold rdSpan
 rw [if_neg (by simp; omega)]
 simp [RS.skip]
end Go.Proofs.YtcldbjehliladaaDoor
