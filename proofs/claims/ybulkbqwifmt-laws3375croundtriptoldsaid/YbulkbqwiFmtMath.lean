/-
  DERIVED. PLAIN ARITHMETIC for the seat: words of eight decimal digits, the value of a run of digits. No dump in it.
-/
import Derived.Lib.Endian
import Derived.Laws.Bits64b
namespace Go.Proofs.YbulkbqwiFmt
namespace M
open Go

theorem wrap_u64 (n : Int) : IntKind.u64.wrap n = n % 18446744073709551616 := by
  simp [IntKind.wrap, IntKind.bits, IntKind.signed]
theorem and_split (k a b c d : Nat) (ha : a < 2 ^ k) (hc : c < 2 ^ k) : (2 ^ k * b + a) &&& (2 ^ k * d + c) = 2 ^ k * (b &&& d) + (a &&& c) := by
  apply Nat.eq_of_testBit_eq
  intro i
  have hac : a &&& c < 2 ^ k := Nat.and_lt_two_pow a hc
  rw [Nat.testBit_and, Nat.testBit_two_pow_mul_add b ha, Nat.testBit_two_pow_mul_add d hc, Nat.testBit_two_pow_mul_add _ hac]
  split <;> simp [Nat.testBit_and]

theorem and_full (k a : Nat) (h : a < 2 ^ k) : a &&& (2 ^ k - 1) = a := by
  rw [Nat.and_two_pow_sub_one_eq_mod, Nat.mod_eq_of_lt h]
/-- 8 bits a field -/
theorem and_split8 (a b c d : Nat) (ha : a < 256) (hc : c < 256) : (a + 256 * b) &&& (c + 256 * d) = (a &&& c) + 256 * (b &&& d) := by
  have := and_split 8 a b c d ha hc
  rw [Nat.add_comm a, Nat.add_comm c, Nat.add_comm (a &&& c)]
  exact this
theorem and_split16 (a b c d : Nat) (ha : a < 65536) (hc : c < 65536) : (a + 65536 * b) &&& (c + 65536 * d) = (a &&& c) + 65536 * (b &&& d) := by
  have := and_split 16 a b c d ha hc
  rw [Nat.add_comm a, Nat.add_comm c, Nat.add_comm (a &&& c)]
  exact this
theorem and255 (a : Nat) (h : a < 256) : a &&& 255 = a := and_full 8 a h
theorem and65535 (a : Nat) (h : a < 65536) : a &&& 65535 = a := and_full 16 a h
theorem m8 : (71777214294589695 : Nat) = 255 + 256 * (0 + 256 * (255 + 256 * (0 + 256 * (255 + 256 * (0 + 256 * (255 + 256 * 0)))))) := by decide
theorem mask8 (c0 c1 c2 c3 c4 c5 c6 c7 : Nat) (h0 : c0 < 256) (h1 : c1 < 256) (h2 : c2 < 256) (h3 : c3 < 256) (h4 : c4 < 256) (h5 : c5 < 256) (h6 : c6 < 256) :
    (c0 + 256 * (c1 + 256 * (c2 + 256 * (c3 + 256 * (c4 + 256 * (c5 + 256 * (c6 + 256 * c7))))))) &&& 71777214294589695 = c0 + 256 * (0 + 256 * (c2 + 256 * (0 + 256 * (c4 + 256 * (0 + 256 * (c6 + 256 * 0)))))) := by
  rw [m8]
  rw [and_split8 c0 _ _ _ h0 (by decide), and_split8 c1 _ _ _ h1 (by decide), and_split8 c2 _ _ _ h2 (by decide), and_split8 c3 _ _ _ h3 (by decide),
    and_split8 c4 _ _ _ h4 (by decide), and_split8 c5 _ _ _ h5 (by decide), and_split8 c6 _ _ _ h6 (by decide)]
  rw [and255 _ h0, and255 _ h2, and255 _ h4, and255 _ h6]
  simp only [Nat.and_zero]
theorem m16 : (281470681808895 : Nat) = 65535 + 65536 * (0 + 65536 * (65535 + 65536 * 0)) := by decide
theorem mask16 (c0 c1 c2 c3 : Nat) (h0 : c0 < 65536) (h1 : c1 < 65536) (h2 : c2 < 65536) :
    (c0 + 65536 * (c1 + 65536 * (c2 + 65536 * c3))) &&& 281470681808895 = c0 + 65536 * (0 + 65536 * (c2 + 65536 * 0)) := by
  rw [m16]
  rw [and_split16 c0 _ _ _ h0 (by decide), and_split16 c1 _ _ _ h1 (by decide), and_split16 c2 _ _ _ h2 (by decide)]
  rw [and65535 _ h0, and65535 _ h2]
  simp only [Nat.and_zero]

def dvI (x : Int) : Int :=
  IntKind.u64.wrap (bits BinOp.and IntKind.u64 (IntKind.u64.wrap (bits BinOp.and IntKind.u64 (IntKind.u64.wrap (IntKind.u64.wrap (x - 3472328296227680304) * 2561) / 256) 71777214294589695 * 6553601) / 65536) 281470681808895 * 42949672960001) / 4294967296
def dfI (x : Int) : Int :=
  bits BinOp.and IntKind.u64 (bits BinOp.or IntKind.u64 (IntKind.u64.wrap (x - 3472328296227680304)) (IntKind.u64.wrap (IntKind.u64.wrap (x - 3472328296227680304) + 8536140394893047414))) 9259542123273814144

theorem dvI_bounds (x : Int) : 0 ≤ dvI x ∧ dvI x < 4294967296 := by
  unfold dvI
  rw [wrap_u64]
  constructor <;> omega

/-- 'x mod 2^64' and a shift, where the parts are named. -/
theorem mod_shift (n c f q r : Nat) (hn : n = c + f * q + 18446744073709551616 * r) (h1 : c < f) (hq : c + f * q < 18446744073709551616) : n % 18446744073709551616 / f = q := by
  rw [hn, Nat.add_mul_mod_self_left, Nat.mod_eq_of_lt hq, Nat.add_mul_div_left _ _ (by omega), Nat.div_eq_of_lt h1]
  omega
theorem cast1 (n : Nat) : IntKind.u64.wrap ((n : Int) * 2561) / 256 = ((n * 2561 % 18446744073709551616 / 256 : Nat) : Int) := by
  rw [wrap_u64]; omega
theorem cast2 (n : Nat) : IntKind.u64.wrap ((n : Int) * 6553601) / 65536 = ((n * 6553601 % 18446744073709551616 / 65536 : Nat) : Int) := by
  rw [wrap_u64]; omega
theorem cast3 (n : Nat) : IntKind.u64.wrap ((n : Int) * 42949672960001) / 4294967296 = ((n * 42949672960001 % 18446744073709551616 / 4294967296 : Nat) : Int) := by
  rw [wrap_u64]; omega
theorem and1 (n : Nat) (h : n < 18446744073709551616) : bits BinOp.and IntKind.u64 (n : Int) 71777214294589695 = ((n &&& 71777214294589695 : Nat) : Int) :=
  bits_and_u64_nat n 71777214294589695 h (by decide)
theorem and2 (n : Nat) (h : n < 18446744073709551616) : bits BinOp.and IntKind.u64 (n : Int) 281470681808895 = ((n &&& 281470681808895 : Nat) : Int) :=
  bits_and_u64_nat n 281470681808895 h (by decide)

theorem shl1 (d0 d1 d2 d3 d4 d5 d6 d7 : Nat) (h0 : d0 ≤ 9) (h1 : d1 ≤ 9) (h2 : d2 ≤ 9) (h3 : d3 ≤ 9) (h4 : d4 ≤ 9) (h5 : d5 ≤ 9) (h6 : d6 ≤ 9) (h7 : d7 ≤ 9) :
    (d0 + 256 * (d1 + 256 * (d2 + 256 * (d3 + 256 * (d4 + 256 * (d5 + 256 * (d6 + 256 * d7))))))) * 2561 % 18446744073709551616 / 256 =
    (10 * d0 + d1) + 256 * ((10 * d1 + d2) + 256 * ((10 * d2 + d3) + 256 * ((10 * d3 + d4) + 256 * ((10 * d4 + d5) + 256 * ((10 * d5 + d6) + 256 * ((10 * d6 + d7) + 256 * 0)))))) :=
  mod_shift _ d0 256 _ (10 * d7) (by omega) (by omega) (by omega)
theorem shl2 (e0 e1 e2 e3 : Nat) (h0 : e0 ≤ 99) (h1 : e1 ≤ 99) (h2 : e2 ≤ 99) (h3 : e3 ≤ 99) :
    (e0 + 256 * (0 + 256 * (e1 + 256 * (0 + 256 * (e2 + 256 * (0 + 256 * (e3 + 256 * 0))))))) * 6553601 % 18446744073709551616 / 65536 =
    (100 * e0 + e1) + 65536 * ((100 * e1 + e2) + 65536 * ((100 * e2 + e3) + 65536 * 0)) :=
  mod_shift _ e0 65536 _ (100 * e3) (by omega) (by omega) (by omega)
theorem shl3 (f0 f1 : Nat) (h0 : f0 ≤ 9999) (h1 : f1 ≤ 9999) :
    (f0 + 65536 * (0 + 65536 * (f1 + 65536 * 0))) * 42949672960001 % 18446744073709551616 / 4294967296 = 10000 * f0 + f1 :=
  mod_shift _ f0 4294967296 _ (10000 * f1) (by omega) (by omega) (by omega)

/-- a word of eight bytes. -/
def word (b0 b1 b2 b3 b4 b5 b6 b7 : Nat) : Nat := b0 + 256 * (b1 + 256 * (b2 + 256 * (b3 + 256 * (b4 + 256 * (b5 + 256 * (b6 + 256 * b7))))))

theorem less (d0 d1 d2 d3 d4 d5 d6 d7 : Nat) (h0 : d0 ≤ 9) (h1 : d1 ≤ 9) (h2 : d2 ≤ 9) (h3 : d3 ≤ 9) (h4 : d4 ≤ 9) (h5 : d5 ≤ 9) (h6 : d6 ≤ 9) (h7 : d7 ≤ 9) :
    IntKind.u64.wrap ((word (d0 + 48) (d1 + 48) (d2 + 48) (d3 + 48) (d4 + 48) (d5 + 48) (d6 + 48) (d7 + 48) : Int) - 3472328296227680304) = ((d0 + 256 * (d1 + 256 * (d2 + 256 * (d3 + 256 * (d4 + 256 * (d5 + 256 * (d6 + 256 * d7)))))) : Nat) : Int) := by
  rw [wrap_u64]
  unfold word
  omega

/-- the eight digits of a word, when all are digits. -/
theorem dvI_digits (d0 d1 d2 d3 d4 d5 d6 d7 : Nat) (h0 : d0 ≤ 9) (h1 : d1 ≤ 9) (h2 : d2 ≤ 9) (h3 : d3 ≤ 9) (h4 : d4 ≤ 9) (h5 : d5 ≤ 9) (h6 : d6 ≤ 9) (h7 : d7 ≤ 9) :
    dvI (word (d0 + 48) (d1 + 48) (d2 + 48) (d3 + 48) (d4 + 48) (d5 + 48) (d6 + 48) (d7 + 48) : Int) = ((10000 * (100 * (10 * d0 + d1) + (10 * d2 + d3)) + (100 * (10 * d4 + d5) + (10 * d6 + d7)) : Nat) : Int) := by
  unfold dvI
  rw [less d0 d1 d2 d3 d4 d5 d6 d7 h0 h1 h2 h3 h4 h5 h6 h7, cast1, shl1 d0 d1 d2 d3 d4 d5 d6 d7 h0 h1 h2 h3 h4 h5 h6 h7, and1 _ (by omega),
    mask8 _ _ _ _ _ _ _ _ (by omega) (by omega) (by omega) (by omega) (by omega) (by omega) (by omega), cast2, shl2 _ _ _ _ (by omega) (by omega) (by omega) (by omega), and2 _ (by omega),
    mask16 _ _ _ _ (by omega) (by omega) (by omega), cast3, shl3 _ _ (by omega) (by omega)]

theorem stage0 (b W : Nat) (hb : b < 256) :
    (((b + 256 * W + 14974415777481871312) % 18446744073709551616 / 128 % 2 = 0 ∧ ((b + 256 * W + 14974415777481871312) % 18446744073709551616 + 8536140394893047414) % 18446744073709551616 / 128 % 2 = 0) ↔ (48 ≤ b ∧ b ≤ 57)) ∧
    (48 ≤ b → b ≤ 57 → (b + 256 * W + 14974415777481871312) % 18446744073709551616 / 256 = (W + 58493811630788560) % 72057594037927936 ∧ ((b + 256 * W + 14974415777481871312) % 18446744073709551616 + 8536140394893047414) % 18446744073709551616 / 256 = ((W + 58493811630788560) % 72057594037927936 + 33344298417550966) % 72057594037927936) := by
  refine ⟨⟨fun h => ?_, fun h => ?_⟩, fun h1 h2 => ?_⟩
  · omega
  · omega
  · constructor <;> omega
theorem stage1 (b W : Nat) (hb : b < 256) :
    (((b + 256 * W + 58493811630788560) % 72057594037927936 / 128 % 2 = 0 ∧ ((b + 256 * W + 58493811630788560) % 72057594037927936 + 33344298417550966) % 72057594037927936 / 128 % 2 = 0) ↔ (48 ≤ b ∧ b ≤ 57)) ∧
    (48 ≤ b → b ≤ 57 → (b + 256 * W + 58493811630788560) % 72057594037927936 / 256 = (W + 228491451682768) % 281474976710656 ∧ ((b + 256 * W + 58493811630788560) % 72057594037927936 + 33344298417550966) % 72057594037927936 / 256 = ((W + 228491451682768) % 281474976710656 + 130251165693558) % 281474976710656) := by
  refine ⟨⟨fun h => ?_, fun h => ?_⟩, fun h1 h2 => ?_⟩
  · omega
  · omega
  · constructor <;> omega
theorem stage2 (b W : Nat) (hb : b < 256) :
    (((b + 256 * W + 228491451682768) % 281474976710656 / 128 % 2 = 0 ∧ ((b + 256 * W + 228491451682768) % 281474976710656 + 130251165693558) % 281474976710656 / 128 % 2 = 0) ↔ (48 ≤ b ∧ b ≤ 57)) ∧
    (48 ≤ b → b ≤ 57 → (b + 256 * W + 228491451682768) % 281474976710656 / 256 = (W + 892544733136) % 1099511627776 ∧ ((b + 256 * W + 228491451682768) % 281474976710656 + 130251165693558) % 281474976710656 / 256 = ((W + 892544733136) % 1099511627776 + 508793615990) % 1099511627776) := by
  refine ⟨⟨fun h => ?_, fun h => ?_⟩, fun h1 h2 => ?_⟩
  · omega
  · omega
  · constructor <;> omega
theorem stage3 (b W : Nat) (hb : b < 256) :
    (((b + 256 * W + 892544733136) % 1099511627776 / 128 % 2 = 0 ∧ ((b + 256 * W + 892544733136) % 1099511627776 + 508793615990) % 1099511627776 / 128 % 2 = 0) ↔ (48 ≤ b ∧ b ≤ 57)) ∧
    (48 ≤ b → b ≤ 57 → (b + 256 * W + 892544733136) % 1099511627776 / 256 = (W + 3486502864) % 4294967296 ∧ ((b + 256 * W + 892544733136) % 1099511627776 + 508793615990) % 1099511627776 / 256 = ((W + 3486502864) % 4294967296 + 1987475062) % 4294967296) := by
  refine ⟨⟨fun h => ?_, fun h => ?_⟩, fun h1 h2 => ?_⟩
  · omega
  · omega
  · constructor <;> omega
theorem stage4 (b W : Nat) (hb : b < 256) :
    (((b + 256 * W + 3486502864) % 4294967296 / 128 % 2 = 0 ∧ ((b + 256 * W + 3486502864) % 4294967296 + 1987475062) % 4294967296 / 128 % 2 = 0) ↔ (48 ≤ b ∧ b ≤ 57)) ∧
    (48 ≤ b → b ≤ 57 → (b + 256 * W + 3486502864) % 4294967296 / 256 = (W + 13619152) % 16777216 ∧ ((b + 256 * W + 3486502864) % 4294967296 + 1987475062) % 4294967296 / 256 = ((W + 13619152) % 16777216 + 7763574) % 16777216) := by
  refine ⟨⟨fun h => ?_, fun h => ?_⟩, fun h1 h2 => ?_⟩
  · omega
  · omega
  · constructor <;> omega
theorem stage5 (b W : Nat) (hb : b < 256) :
    (((b + 256 * W + 13619152) % 16777216 / 128 % 2 = 0 ∧ ((b + 256 * W + 13619152) % 16777216 + 7763574) % 16777216 / 128 % 2 = 0) ↔ (48 ≤ b ∧ b ≤ 57)) ∧
    (48 ≤ b → b ≤ 57 → (b + 256 * W + 13619152) % 16777216 / 256 = (W + 53200) % 65536 ∧ ((b + 256 * W + 13619152) % 16777216 + 7763574) % 16777216 / 256 = ((W + 53200) % 65536 + 30326) % 65536) := by
  refine ⟨⟨fun h => ?_, fun h => ?_⟩, fun h1 h2 => ?_⟩
  · omega
  · omega
  · constructor <;> omega
theorem stage6 (b W : Nat) (hb : b < 256) :
    (((b + 256 * W + 53200) % 65536 / 128 % 2 = 0 ∧ ((b + 256 * W + 53200) % 65536 + 30326) % 65536 / 128 % 2 = 0) ↔ (48 ≤ b ∧ b ≤ 57)) ∧
    (48 ≤ b → b ≤ 57 → (b + 256 * W + 53200) % 65536 / 256 = (W + 208) % 256 ∧ ((b + 256 * W + 53200) % 65536 + 30326) % 65536 / 256 = ((W + 208) % 256 + 118) % 256) := by
  refine ⟨⟨fun h => ?_, fun h => ?_⟩, fun h1 h2 => ?_⟩
  · omega
  · omega
  · constructor <;> omega
theorem stage7 (b : Nat) (hb : b < 256) :
    (((b + 208) % 256 / 128 % 2 = 0 ∧ ((b + 208) % 256 + 118) % 256 / 128 % 2 = 0) ↔ (48 ≤ b ∧ b ≤ 57)) := by omega
theorem chain (b0 b1 b2 b3 b4 b5 b6 b7 : Nat) (h0 : b0 < 256) (h1 : b1 < 256) (h2 : b2 < 256) (h3 : b3 < 256) (h4 : b4 < 256) (h5 : b5 < 256) (h6 : b6 < 256) (h7 : b7 < 256) :
    ((((word b0 b1 b2 b3 b4 b5 b6 b7 + 14974415777481871312) % 18446744073709551616) / 128 % 2 = 0 ∧ ((((word b0 b1 b2 b3 b4 b5 b6 b7 + 14974415777481871312) % 18446744073709551616) + 8536140394893047414) % 18446744073709551616) / 128 % 2 = 0) ∧ (((word b0 b1 b2 b3 b4 b5 b6 b7 + 14974415777481871312) % 18446744073709551616) / 256 / 128 % 2 = 0 ∧ ((((word b0 b1 b2 b3 b4 b5 b6 b7 + 14974415777481871312) % 18446744073709551616) + 8536140394893047414) % 18446744073709551616) / 256 / 128 % 2 = 0) ∧ (((word b0 b1 b2 b3 b4 b5 b6 b7 + 14974415777481871312) % 18446744073709551616) / 256 / 256 / 128 % 2 = 0 ∧ ((((word b0 b1 b2 b3 b4 b5 b6 b7 + 14974415777481871312) % 18446744073709551616) + 8536140394893047414) % 18446744073709551616) / 256 / 256 / 128 % 2 = 0) ∧ (((word b0 b1 b2 b3 b4 b5 b6 b7 + 14974415777481871312) % 18446744073709551616) / 256 / 256 / 256 / 128 % 2 = 0 ∧ ((((word b0 b1 b2 b3 b4 b5 b6 b7 + 14974415777481871312) % 18446744073709551616) + 8536140394893047414) % 18446744073709551616) / 256 / 256 / 256 / 128 % 2 = 0) ∧ (((word b0 b1 b2 b3 b4 b5 b6 b7 + 14974415777481871312) % 18446744073709551616) / 256 / 256 / 256 / 256 / 128 % 2 = 0 ∧ ((((word b0 b1 b2 b3 b4 b5 b6 b7 + 14974415777481871312) % 18446744073709551616) + 8536140394893047414) % 18446744073709551616) / 256 / 256 / 256 / 256 / 128 % 2 = 0) ∧ (((word b0 b1 b2 b3 b4 b5 b6 b7 + 14974415777481871312) % 18446744073709551616) / 256 / 256 / 256 / 256 / 256 / 128 % 2 = 0 ∧ ((((word b0 b1 b2 b3 b4 b5 b6 b7 + 14974415777481871312) % 18446744073709551616) + 8536140394893047414) % 18446744073709551616) / 256 / 256 / 256 / 256 / 256 / 128 % 2 = 0) ∧ (((word b0 b1 b2 b3 b4 b5 b6 b7 + 14974415777481871312) % 18446744073709551616) / 256 / 256 / 256 / 256 / 256 / 256 / 128 % 2 = 0 ∧ ((((word b0 b1 b2 b3 b4 b5 b6 b7 + 14974415777481871312) % 18446744073709551616) + 8536140394893047414) % 18446744073709551616) / 256 / 256 / 256 / 256 / 256 / 256 / 128 % 2 = 0) ∧ (((word b0 b1 b2 b3 b4 b5 b6 b7 + 14974415777481871312) % 18446744073709551616) / 256 / 256 / 256 / 256 / 256 / 256 / 256 / 128 % 2 = 0 ∧ ((((word b0 b1 b2 b3 b4 b5 b6 b7 + 14974415777481871312) % 18446744073709551616) + 8536140394893047414) % 18446744073709551616) / 256 / 256 / 256 / 256 / 256 / 256 / 256 / 128 % 2 = 0)) ↔ ((48 ≤ b0 ∧ b0 ≤ 57) ∧ (48 ≤ b1 ∧ b1 ≤ 57) ∧ (48 ≤ b2 ∧ b2 ≤ 57) ∧ (48 ≤ b3 ∧ b3 ≤ 57) ∧ (48 ≤ b4 ∧ b4 ≤ 57) ∧ (48 ≤ b5 ∧ b5 ≤ 57) ∧ (48 ≤ b6 ∧ b6 ≤ 57) ∧ (48 ≤ b7 ∧ b7 ≤ 57)) := by
  unfold word
  have s0 := stage0 b0 (b1 + 256 * (b2 + 256 * (b3 + 256 * (b4 + 256 * (b5 + 256 * (b6 + 256 * b7)))))) h0
  have s1 := stage1 b1 (b2 + 256 * (b3 + 256 * (b4 + 256 * (b5 + 256 * (b6 + 256 * b7))))) h1
  have s2 := stage2 b2 (b3 + 256 * (b4 + 256 * (b5 + 256 * (b6 + 256 * b7)))) h2
  have s3 := stage3 b3 (b4 + 256 * (b5 + 256 * (b6 + 256 * b7))) h3
  have s4 := stage4 b4 (b5 + 256 * (b6 + 256 * b7)) h4
  have s5 := stage5 b5 (b6 + 256 * b7) h5
  have s6 := stage6 b6 b7 h6
  have s7 := stage7 b7 h7
  constructor
  · rintro ⟨a0, a1, a2, a3, a4, a5, a6, a7⟩
    have d0 := s0.1.1 a0
    obtain ⟨x0, y0⟩ := s0.2 d0.1 d0.2
    rw [x0, y0] at a1 a2 a3 a4 a5 a6 a7
    have d1 := s1.1.1 a1
    obtain ⟨x1, y1⟩ := s1.2 d1.1 d1.2
    rw [x1, y1] at a2 a3 a4 a5 a6 a7
    have d2 := s2.1.1 a2
    obtain ⟨x2, y2⟩ := s2.2 d2.1 d2.2
    rw [x2, y2] at a3 a4 a5 a6 a7
    have d3 := s3.1.1 a3
    obtain ⟨x3, y3⟩ := s3.2 d3.1 d3.2
    rw [x3, y3] at a4 a5 a6 a7
    have d4 := s4.1.1 a4
    obtain ⟨x4, y4⟩ := s4.2 d4.1 d4.2
    rw [x4, y4] at a5 a6 a7
    have d5 := s5.1.1 a5
    obtain ⟨x5, y5⟩ := s5.2 d5.1 d5.2
    rw [x5, y5] at a6 a7
    have d6 := s6.1.1 a6
    obtain ⟨x6, y6⟩ := s6.2 d6.1 d6.2
    rw [x6, y6] at a7
    have d7 := s7.1 a7
    exact ⟨d0, d1, d2, d3, d4, d5, d6, d7⟩
  · rintro ⟨d0, d1, d2, d3, d4, d5, d6, d7⟩
    obtain ⟨x0, y0⟩ := s0.2 d0.1 d0.2
    obtain ⟨x1, y1⟩ := s1.2 d1.1 d1.2
    obtain ⟨x2, y2⟩ := s2.2 d2.1 d2.2
    obtain ⟨x3, y3⟩ := s3.2 d3.1 d3.2
    obtain ⟨x4, y4⟩ := s4.2 d4.1 d4.2
    obtain ⟨x5, y5⟩ := s5.2 d5.1 d5.2
    obtain ⟨x6, y6⟩ := s6.2 d6.1 d6.2
    refine ⟨s0.1.2 d0, ?_⟩
    rw [x0, y0]
    refine ⟨s1.1.2 d1, ?_⟩
    rw [x1, y1]
    refine ⟨s2.1.2 d2, ?_⟩
    rw [x2, y2]
    refine ⟨s3.1.2 d3, ?_⟩
    rw [x3, y3]
    refine ⟨s4.1.2 d4, ?_⟩
    rw [x4, y4]
    refine ⟨s5.1.2 d5, ?_⟩
    rw [x5, y5]
    refine ⟨s6.1.2 d6, ?_⟩
    rw [x6, y6]
    exact s7.2 d7

theorem mbit (i : Nat) (h : (9259542123273814144 : Nat).testBit i = true) : i = 7 ∨ i = 15 ∨ i = 23 ∨ i = 31 ∨ i = 39 ∨ i = 47 ∨ i = 55 ∨ i = 63 := by
  rcases Nat.lt_or_ge i 64 with hi | hi
  · have key : ∀ j, j < 64 → (9259542123273814144 : Nat).testBit j = true → j = 7 ∨ j = 15 ∨ j = 23 ∨ j = 31 ∨ j = 39 ∨ j = 47 ∨ j = 55 ∨ j = 63 := by decide
    exact key i hi h
  · have hp : (9259542123273814144 : Nat) < 2 ^ i := Nat.lt_of_lt_of_le (by decide : (9259542123273814144 : Nat) < 2 ^ 64) (Nat.pow_le_pow_right (by decide) hi)
    rw [Nat.testBit_lt_two_pow hp] at h
    cases h

theorem bit_div (x i : Nat) : x.testBit i = false ↔ x / 2 ^ i % 2 = 0 := by
  rw [Nat.testBit_eq_decide_div_mod_eq]
  simp

theorem or_and_zero (x y : Nat) : (x ||| y) &&& 9259542123273814144 = 0 ↔ ∀ i, (i = 7 ∨ i = 15 ∨ i = 23 ∨ i = 31 ∨ i = 39 ∨ i = 47 ∨ i = 55 ∨ i = 63) → x.testBit i = false ∧ y.testBit i = false := by
  constructor
  · intro h i hi
    have hb : ((x ||| y) &&& 9259542123273814144).testBit i = false := by rw [h]; simp
    have hm : (9259542123273814144 : Nat).testBit i = true := by
      rcases hi with rfl | rfl | rfl | rfl | rfl | rfl | rfl | rfl <;> decide
    rw [Nat.testBit_and, Nat.testBit_or, hm] at hb
    simpa using hb
  · intro h
    apply Nat.eq_of_testBit_eq
    intro i
    rw [Nat.testBit_and, Nat.testBit_or, Nat.zero_testBit]
    cases hm : (9259542123273814144 : Nat).testBit i with
    | false => simp
    | true =>
      obtain ⟨h1, h2⟩ := h i (mbit i hm)
      simp [h1, h2]

theorem or_and_zero' (x y : Nat) : (x ||| y) &&& 9259542123273814144 = 0 ↔ ((x / 128 % 2 = 0 ∧ y / 128 % 2 = 0) ∧ (x / 256 / 128 % 2 = 0 ∧ y / 256 / 128 % 2 = 0) ∧ (x / 256 / 256 / 128 % 2 = 0 ∧ y / 256 / 256 / 128 % 2 = 0) ∧ (x / 256 / 256 / 256 / 128 % 2 = 0 ∧ y / 256 / 256 / 256 / 128 % 2 = 0) ∧ (x / 256 / 256 / 256 / 256 / 128 % 2 = 0 ∧ y / 256 / 256 / 256 / 256 / 128 % 2 = 0) ∧ (x / 256 / 256 / 256 / 256 / 256 / 128 % 2 = 0 ∧ y / 256 / 256 / 256 / 256 / 256 / 128 % 2 = 0) ∧ (x / 256 / 256 / 256 / 256 / 256 / 256 / 128 % 2 = 0 ∧ y / 256 / 256 / 256 / 256 / 256 / 256 / 128 % 2 = 0) ∧ (x / 256 / 256 / 256 / 256 / 256 / 256 / 256 / 128 % 2 = 0 ∧ y / 256 / 256 / 256 / 256 / 256 / 256 / 256 / 128 % 2 = 0)) := by
  rw [or_and_zero]
  have e : ∀ (z : Nat), (z.testBit 7 = false ↔ z / 128 % 2 = 0) ∧ (z.testBit 15 = false ↔ z / 256 / 128 % 2 = 0) ∧ (z.testBit 23 = false ↔ z / 256 / 256 / 128 % 2 = 0) ∧ (z.testBit 31 = false ↔ z / 256 / 256 / 256 / 128 % 2 = 0) ∧ (z.testBit 39 = false ↔ z / 256 / 256 / 256 / 256 / 128 % 2 = 0) ∧ (z.testBit 47 = false ↔ z / 256 / 256 / 256 / 256 / 256 / 128 % 2 = 0) ∧ (z.testBit 55 = false ↔ z / 256 / 256 / 256 / 256 / 256 / 256 / 128 % 2 = 0) ∧ (z.testBit 63 = false ↔ z / 256 / 256 / 256 / 256 / 256 / 256 / 256 / 128 % 2 = 0) := by
    intro z
    simp only [bit_div, Nat.div_div_eq_div_mul]
    simp
  obtain ⟨u0, u1, u2, u3, u4, u5, u6, u7⟩ := e x
  obtain ⟨v0, v1, v2, v3, v4, v5, v6, v7⟩ := e y
  rw [← u0, ← v0, ← u1, ← v1, ← u2, ← v2, ← u3, ← v3, ← u4, ← v4, ← u5, ← v5, ← u6, ← v6, ← u7, ← v7]
  constructor
  · intro h
    exact ⟨h 7 (by decide), h 15 (by decide), h 23 (by decide), h 31 (by decide), h 39 (by decide), h 47 (by decide), h 55 (by decide), h 63 (by decide)⟩
  · rintro ⟨a0, a1, a2, a3, a4, a5, a6, a7⟩ i hi
    rcases hi with rfl | rfl | rfl | rfl | rfl | rfl | rfl | rfl <;> assumption

theorem lessC (n : Nat) : IntKind.u64.wrap ((n : Int) - 3472328296227680304) = ((n + 14974415777481871312) % 18446744073709551616 : Nat) := by
  rw [wrap_u64]; omega
theorem plusS (n : Nat) : IntKind.u64.wrap ((n : Int) + 8536140394893047414) = ((n + 8536140394893047414) % 18446744073709551616 : Nat) := by
  rw [wrap_u64]; omega

/-- the fault word as a natural number. -/
def fw (n : Nat) : Nat := ((n + 14974415777481871312) % 18446744073709551616 ||| ((n + 14974415777481871312) % 18446744073709551616 + 8536140394893047414) % 18446744073709551616) &&& 9259542123273814144
theorem fw_lt (n : Nat) : fw n < 18446744073709551616 := Nat.lt_of_le_of_lt Nat.and_le_right (by decide)
theorem dfI_fw (n : Nat) : dfI (n : Int) = (fw n : Int) := by
  unfold dfI fw
  rw [lessC n, plusS, bits_or_u64_nat _ _ (Nat.mod_lt _ (by decide)) (Nat.mod_lt _ (by decide)),
    show (9259542123273814144 : Int) = ((9259542123273814144 : Nat) : Int) from rfl,
    bits_and_u64_nat _ _ (Nat.or_lt_two_pow (n := 64) (Nat.mod_lt _ (by decide)) (Nat.mod_lt _ (by decide))) (by decide)]

theorem fw_zero (b0 b1 b2 b3 b4 b5 b6 b7 : Nat) (h0 : b0 < 256) (h1 : b1 < 256) (h2 : b2 < 256) (h3 : b3 < 256) (h4 : b4 < 256) (h5 : b5 < 256) (h6 : b6 < 256) (h7 : b7 < 256) : fw (word b0 b1 b2 b3 b4 b5 b6 b7) = 0 ↔ ((48 ≤ b0 ∧ b0 ≤ 57) ∧ (48 ≤ b1 ∧ b1 ≤ 57) ∧ (48 ≤ b2 ∧ b2 ≤ 57) ∧ (48 ≤ b3 ∧ b3 ≤ 57) ∧ (48 ≤ b4 ∧ b4 ≤ 57) ∧ (48 ≤ b5 ∧ b5 ≤ 57) ∧ (48 ≤ b6 ∧ b6 ≤ 57) ∧ (48 ≤ b7 ∧ b7 ≤ 57)) := by
  unfold fw
  rw [or_and_zero', chain b0 b1 b2 b3 b4 b5 b6 b7 h0 h1 h2 h3 h4 h5 h6 h7]

theorem word_lt (b0 b1 b2 b3 b4 b5 b6 b7 : Nat) (h0 : b0 < 256) (h1 : b1 < 256) (h2 : b2 < 256) (h3 : b3 < 256) (h4 : b4 < 256) (h5 : b5 < 256) (h6 : b6 < 256) (h7 : b7 < 256) : word b0 b1 b2 b3 b4 b5 b6 b7 < 18446744073709551616 := by unfold word; omega
end M
end Go.Proofs.YbulkbqwiFmt
