/- Bits of a float64: the machine's words, and the float's sign, mantissa and exponent. -/
import Derived.Test.YtcfknhboicomjaaGreatDoorFset
import Derived.Laws.Externs
namespace Go.Proofs.YtcfknhboicomjaaGreatDoor.Ft
open Go.RowKit Fy

theorem bitLen_log2 (x : Nat) (h0 : x ≠ 0) (h : x < 2 ^ 64) : Lib.bitLen x = x.log2 + 1 := by
  induction x using Nat.strongRecOn with
  | _ x ih =>
    rw [Lib.bitLen_half x h0 h, Nat.log2_def]
    by_cases h2 : 2 ≤ x
    · rw [if_pos h2, ih (x / 2) (by omega) (by omega) (by omega)]
      omega
    · rw [if_neg h2]
      have : x / 2 = 0 := by omega
      rw [this]
      decide
theorem bitLen_pos (x : Nat) (h0 : x ≠ 0) (h : x < 2 ^ 64) : 1 ≤ Lib.bitLen x ∧ Lib.bitLen x ≤ 64 := by
  rw [bitLen_log2 x h0 h]
  have := (Nat.log2_lt h0).2 h
  omega
/-- M, moved up to the left end of 64 bits. -/
theorem shl_top (x : Nat) (h0 : x ≠ 0) (h : x < 2 ^ 64) : 2 ^ 63 ≤ x * 2 ^ (64 - Lib.bitLen x) ∧ x * 2 ^ (64 - Lib.bitLen x) < 2 ^ 64 := by
  have hb := bitLen_pos x h0 h
  have h1 := Nat.log2_self_le h0
  have h2 := @Nat.lt_log2_self x
  have he := bitLen_log2 x h0 h
  have e1 : x.log2 = Lib.bitLen x - 1 := by omega
  rw [e1] at h1 h2
  rw [show Lib.bitLen x - 1 + 1 = Lib.bitLen x by omega] at h2
  constructor
  · have := Nat.mul_le_mul_right (2 ^ (64 - Lib.bitLen x)) h1
    rw [← Nat.pow_add, show Lib.bitLen x - 1 + (64 - Lib.bitLen x) = 63 by omega] at this
    exact this
  · have := Nat.mul_lt_mul_of_pos_right h2 (show 0 < 2 ^ (64 - Lib.bitLen x) from Nat.pow_pos (by omega))
    rw [← Nat.pow_add, show Lib.bitLen x + (64 - Lib.bitLen x) = 64 by omega] at this
    exact this

theorem call97 (b : Nat) (w : World) : (callFunc 97 #[.float .f64 b]).run Tryz.prog w = .ok (.value (.int .u64 b)) w := by
  rw [run_callFunc_extern Tryz.func97 (by kernel_rfl) (by kernel_rfl) (by kernel_rfl) (e := Extern.MathFloatBits.float64bits) (by kernel_rfl)]; rfl
theorem call63 (b : Nat) (w : World) : (callFunc 63 #[.float .f64 b]).run Tryz.prog w = .ok (.value (.int .u64 b)) w := by
  rw [run_callFunc_extern Tryz.func63 (by kernel_rfl) (by kernel_rfl) (by kernel_rfl) (e := Extern.MathFloatBits.float64bits) (by kernel_rfl)]; rfl
theorem call62 (n : Int) (w : World) : (callFunc 62 #[.int .u64 n]).run Tryz.prog w = .ok (.value (.float .f64 n.toNat)) w := by
  rw [run_callFunc_extern Tryz.func62 (by kernel_rfl) (by kernel_rfl) (by kernel_rfl) (e := Extern.MathFloatBits.float64frombits) (by kernel_rfl)]; rfl
theorem call152 (n : Int) (w : World) : (callFunc 152 #[.int .u64 n]).run Tryz.prog w = .ok (.value (.float .f64 n.toNat)) w := by
  rw [run_callFunc_extern Tryz.func152 (by kernel_rfl) (by kernel_rfl) (by kernel_rfl) (e := Extern.MathFloatBits.float64frombits) (by kernel_rfl)]; rfl

theorem and_2047 (n : Int) : bits .and .i64 n 2047 = n % 2048 := by
  have h127 : (BitVec.ofInt 64 2047).toNat = 2 ^ 11 - 1 := by decide
  have key : (BitVec.ofInt 64 n &&& BitVec.ofInt 64 2047).toNat = (n % ((2 ^ 64 : Nat) : Int)).toNat % 2 ^ 11 := by
    rw [BitVec.toNat_and, BitVec.toNat_ofInt, h127, Nat.and_two_pow_sub_one_eq_mod]
  show IntKind.i64.wrap ((BitVec.ofInt 64 n &&& BitVec.ofInt 64 2047).toNat : Nat) = n % 2048
  rw [key, IntKind.wrap_i64]
  omega
theorem and_mant (b : Nat) (h : b < 18446744073709551616) : bits .and .u64 (b : Int) 4503599627370495 = ((b % 4503599627370496 : Nat) : Int) := by
  have := bits_and_u64_nat b 4503599627370495 h (by omega)
  rw [show (4503599627370495 : Nat) = 2 ^ 52 - 1 by decide, Nat.and_two_pow_sub_one_eq_mod] at this
  exact this
theorem or_hidden (m : Nat) (h : m < 4503599627370496) : bits .or .u64 (m : Int) 4503599627370496 = ((4503599627370496 + m : Nat) : Int) := by
  have := bits_or_u64_nat m 4503599627370496 (by omega) (by omega)
  have e := Nat.two_pow_add_eq_or_of_lt (i := 52) (b := m) (by simpa using h) 1
  simp only [Nat.mul_one, Nat.reducePow] at e
  rw [Nat.or_comm, ← e] at this
  exact this
end Go.Proofs.YtcfknhboicomjaaGreatDoor.Ft
