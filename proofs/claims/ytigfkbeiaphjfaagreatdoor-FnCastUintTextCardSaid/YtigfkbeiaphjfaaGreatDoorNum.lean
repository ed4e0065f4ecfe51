/- Plain: what the reference's decimal digits are: the digits of strconv's own law. -/
import Derived.Test.YtigfkbeiaphjfaaGreatDoorDec
import Derived.Lib.ItoaNum
namespace Go.Proofs.YtigfkbeiaphjfaaGreatDoor.Ca
open Go.Proofs.YtigfkbeiaphjfaaGreatDoor.PFnCastPointer Go.RowKit

abbrev ba (l : List UInt8) : ByteArray := ⟨l.toArray⟩
theorem ba_app (a b : List UInt8) : ba a ++ ba b = ba (a ++ b) := by
  apply ByteArray.ext
  simp [ByteArray.data_append]
theorem ba_size (a : List UInt8) : (ba a).size = a.length := by simp [ByteArray.size]

theorem wrapU (x : Int) : IntKind.u64.wrap x = x % 18446744073709551616 := by
  simp [IntKind.wrap, IntKind.signed, IntKind.bits]
theorem dig_one (m : Nat) (hm : m < 18446744073709551616) : strOfNums [(IntKind.u64.wrap (48 + (Int.tmod (m : Int) 10))) % 256] = ba [UInt8.ofNat (48 + m % 10)] := by
  have h1 : Int.tmod (m : Int) 10 = ((m % 10 : Nat) : Int) := by rw [Int.tmod_eq_emod_of_nonneg (by omega)]; omega
  have h2 : (IntKind.u64.wrap (48 + ((m % 10 : Nat) : Int))) % 256 = ((48 + m % 10 : Nat) : Int) := by
    rw [wrapU]
    omega
  rw [h1, h2]
  simp only [strOfNums, List.map_cons, List.map_nil, Int.toNat_natCast]
theorem quo_ten (m : Nat) (hm : m < 18446744073709551616) : IntKind.u64.wrap (Int.tdiv (m : Int) 10) = ((m / 10 : Nat) : Int) := by
  have h1 : Int.tdiv (m : Int) 10 = ((m / 10 : Nat) : Int) := by rw [Int.tdiv_eq_ediv_of_nonneg (by omega)]; omega
  rw [h1, wrapU]
  omega

theorem dec_loop : ∀ (m : Nat) (l : List UInt8), l.length ≤ 64 → m < 2 ^ (64 - l.length) → ∃ k, spec_CastDecimalUint.l0 k (m : Int) (ba l) = some (ba ((if m = 0 then [] else Lib.decDigits m) ++ l)) := by
  intro m
  induction m using Nat.strongRecOn with
  | _ m ih =>
    intro l hl hm
    by_cases h0 : m = 0
    · subst h0
      exact ⟨1, by rw [spec_CastDecimalUint.l0, if_neg (by simp)]; simp⟩
    · have hll : l.length < 64 := by
        rcases Nat.lt_or_ge l.length 64 with h | h
        · exact h
        · rw [show 64 - l.length = 0 by omega] at hm; omega
      have hpow : 2 ^ (64 - l.length) = 2 * 2 ^ (64 - (l.length + 1)) := by rw [← Nat.pow_succ']; congr 1; omega
      have hbig : 2 ^ (64 - l.length) ≤ 2 ^ 64 := Nat.pow_le_pow_right (by omega) (by omega)
      have hm64 : m < 18446744073709551616 := by omega
      obtain ⟨k, hk⟩ := ih (m / 10) (by omega) (UInt8.ofNat (48 + m % 10) :: l) (by simp; omega) (by simp only [List.length_cons]; omega)
      refine ⟨k + 1, ?_⟩
      rw [spec_CastDecimalUint.l0, if_pos (by omega), Option.bind_some, dig_one m hm64, ba_size, ba_size, if_pos (by simp; omega), quo_ten m hm64, ba_app, List.singleton_append, hk, if_neg h0]
      congr 2
      by_cases h1 : m / 10 = 0
      · rw [if_pos h1, Lib.decDigits, dif_pos (by omega), show m % 10 = m by omega]; rfl
      · rw [if_neg h1, Lib.decDigits.eq_def m, dif_neg (by omega)]; simp

theorem dec_uint (n : Nat) (hn : n < 18446744073709551616) : ∃ k, spec_CastDecimalUint.f k (n : Int) = some (ba (Lib.decDigits n)) := by
  obtain ⟨k, hk⟩ := dec_loop (n / 10) [UInt8.ofNat (48 + n % 10)] (by simp) (by simp; omega)
  refine ⟨k, ?_⟩
  rw [spec_CastDecimalUint.f, dig_one n hn, quo_ten n hn, hk]
  congr 2
  by_cases h1 : n / 10 = 0
  · rw [if_pos h1, Lib.decDigits, dif_pos (by omega), show n % 10 = n by omega]; rfl
  · rw [if_neg h1, Lib.decDigits.eq_def n, dif_neg (by omega)]

theorem decDigits_len : ∀ (n k : Nat), n < 10 ^ k → 0 < k → (Lib.decDigits n).length ≤ k := by
  intro n
  induction n using Nat.strongRecOn with
  | _ n ih =>
    intro k hk h0
    rw [Lib.decDigits]
    split
    · simp; omega
    · rename_i h
      obtain ⟨j, rfl⟩ : ∃ j, k = j + 1 := ⟨k - 1, by omega⟩
      have hj : 0 < j := by
        rcases Nat.eq_zero_or_pos j with e | e
        · subst e; omega
        · exact e
      have := ih (n / 10) (by omega) j (by rw [Nat.pow_succ] at hk; omega) hj
      simp; omega

theorem dec_int (n : Int) (h0 : -9223372036854775808 ≤ n) (h1 : n ≤ 9223372036854775807) : ∃ k, spec_CastDecimal.f k n = some (ba (Lib.itoa n)) := by
  by_cases hn : n < 0
  · obtain ⟨k, hk⟩ := dec_uint n.natAbs (by omega)
    have e : IntKind.u64.wrap (-(IntKind.u64.wrap n)) = (n.natAbs : Int) := by
      simp only [wrapU]
      omega
    have hlen := decDigits_len n.natAbs 20 (by omega) (by omega)
    refine ⟨k, ?_⟩
    rw [spec_CastDecimal.f, if_pos hn, e, hk, Option.bind_some, ba_size, if_pos (by omega), Lib.itoa, if_pos hn]
    exact congrArg some (ba_app [45] _)
  · obtain ⟨k, hk⟩ := dec_uint n.toNat (by omega)
    have e : IntKind.u64.wrap n = (n.toNat : Int) := by
      simp only [wrapU]
      omega
    refine ⟨k, ?_⟩
    rw [spec_CastDecimal.f, if_neg hn, e, hk, Option.bind_some, Lib.itoa, if_neg hn]
end Go.Proofs.YtigfkbeiaphjfaaGreatDoor.Ca
