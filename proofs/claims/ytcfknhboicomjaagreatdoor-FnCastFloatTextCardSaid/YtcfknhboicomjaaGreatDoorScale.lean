/- Plain: strconv's uscale, on numbers: where no multiple comes too near a whole number it is the exact product, cut, with a sticky bit. -/
namespace Go.Proofs.YtcfknhboicomjaaGreatDoor.Fy

/-- A quotient cut, its last bit set where something was cut off. -/
def unr (a b : Nat) : Nat := a / b ||| (if a % b = 0 then 0 else 1)
/-- strconv.uscale: x times (H 2^64 - L), its top 64 bits cut by s. -/
def usc (x H L s : Nat) : Nat :=
  let hi := x * H / 2 ^ 64
  let mid := x * H % 2 ^ 64
  if hi / 2 ^ s * 2 ^ s ≠ hi then hi / 2 ^ s ||| 1
  else
    let mid2 := x * L / 2 ^ 64
    (if mid < mid2 then (hi + 2 ^ 64 - 1) % 2 ^ 64 else hi) / 2 ^ s ||| (if (mid + 2 ^ 64 - mid2) % 2 ^ 64 > 1 then 1 else 0)

theorem unr_eq {a b q : Nat} (hb : 0 < b) (h1 : q * b ≤ a) (h2 : a < (q + 1) * b) : unr a b = q ||| (if a = q * b then 0 else 1) := by
  have hq : a / b = q := by
    apply Nat.div_eq_of_lt_le
    · rw [Nat.mul_comm] at h1; rw [Nat.mul_comm]; exact h1
    · exact h2
  have hm : a % b = 0 ↔ a = q * b := by
    have := Nat.div_add_mod a b
    rw [hq, Nat.mul_comm] at this
    omega
  unfold unr
  rw [hq]
  by_cases h : a = q * b
  · rw [if_pos (hm.2 h), if_pos h]
  · rw [if_neg (fun e => h (hm.1 e)), if_neg h]

/-- It is the exact product, cut, with a sticky bit; or the product is very near a whole number, which it gives. -/
theorem usc_near (x H L s n m : Nat) (hx : x < 2 ^ 64) (hH : H < 2 ^ 64) (hL : L < 2 ^ 64) (hm : 0 < m) (hP : L ≤ H * 2 ^ 64)
    (h1 : n * 2 ^ (128 + s) ≤ (H * 2 ^ 64 - L) * m) (h2 : (H * 2 ^ 64 - L) * m < n * 2 ^ (128 + s) + m) :
    usc x H L s = unr (x * n) m ∨ ∃ q, usc x H L s = q ∧ x * n ≠ q * m ∧ x * n * 2 ^ (63 + s) < q * m * 2 ^ (63 + s) + m ∧ q * m * 2 ^ (63 + s) < x * n * 2 ^ (63 + s) + m := by
  obtain ⟨P, hPd⟩ : ∃ P, H * 2 ^ 64 - L = P := ⟨_, rfl⟩
  rw [hPd] at h1 h2
  have hPL : P + L = H * 2 ^ 64 := by omega
  obtain ⟨S, hS⟩ : ∃ S, 2 ^ s = S := ⟨_, rfl⟩
  have hS0 : 0 < S := hS ▸ Nat.two_pow_pos s
  have hK : (2 : Nat) ^ (128 + s) = S * 2 ^ 128 := by rw [Nat.pow_add, hS, Nat.mul_comm]
  have hK2 : (2 : Nat) ^ (63 + s) * 2 ^ 65 = S * 2 ^ 128 := by rw [Nat.pow_add, hS]; omega
  obtain ⟨D, hD⟩ : ∃ D, (2 : Nat) ^ (63 + s) = D := ⟨_, rfl⟩
  rw [hD] at hK2 ⊢
  rw [hK] at h1 h2
  obtain ⟨K, hKd⟩ : ∃ K, S * 2 ^ 128 = K := ⟨_, rfl⟩
  rw [hKd] at h1 h2 hK2
  obtain ⟨A, hA⟩ : ∃ A, x * n = A := ⟨_, rfl⟩
  rw [hA]
  obtain ⟨T, hT⟩ : ∃ T, x * P = T := ⟨_, rfl⟩
  have t1 : A * K ≤ T * m := by
    have := Nat.mul_le_mul_left x h1
    rw [← hA, ← hT]
    calc x * n * K = x * (n * K) := Nat.mul_assoc ..
      _ ≤ x * (P * m) := this
      _ = x * P * m := (Nat.mul_assoc ..).symm
  have t2 : T * m < A * K + 2 ^ 64 * m := by
    have h3 : x * (P * m) ≤ x * (n * K + m) := Nat.mul_le_mul_left x (Nat.le_of_lt h2)
    have h4 : x * m < 2 ^ 64 * m := Nat.mul_lt_mul_of_pos_right hx hm
    have e1 : x * (P * m) = T * m := by rw [← hT, Nat.mul_assoc]
    have e2 : x * (n * K + m) = A * K + x * m := by rw [Nat.mul_add, ← Nat.mul_assoc, hA]
    omega
  have hTL : T + x * L = x * H * 2 ^ 64 := by
    rw [← hT, ← Nat.mul_add, hPL, Nat.mul_assoc]
  have hxL : x * L ≤ (2 ^ 64 - 1) * (2 ^ 64 - 1) := Nat.mul_le_mul (by omega) (by omega)
  unfold usc
  rw [hS]
  obtain ⟨hi, hhi⟩ : ∃ hi, x * H / 2 ^ 64 = hi := ⟨_, rfl⟩
  obtain ⟨mid, hmid⟩ : ∃ mid, x * H % 2 ^ 64 = mid := ⟨_, rfl⟩
  obtain ⟨mid2, hmid2⟩ : ∃ mid2, x * L / 2 ^ 64 = mid2 := ⟨_, rfl⟩
  obtain ⟨lo, hlo⟩ : ∃ lo, x * L % 2 ^ 64 = lo := ⟨_, rfl⟩
  have d1 : x * H = hi * 2 ^ 64 + mid := by have := Nat.div_add_mod (x * H) (2 ^ 64); omega
  have d2 : x * L = mid2 * 2 ^ 64 + lo := by have := Nat.div_add_mod (x * L) (2 ^ 64); omega
  have m1 : mid < 2 ^ 64 := hmid ▸ Nat.mod_lt _ (by omega)
  have m2 : lo < 2 ^ 64 := hlo ▸ Nat.mod_lt _ (by omega)
  have m3 : mid2 ≤ 2 ^ 64 - 2 := by omega
  have hihi : hi < 2 ^ 64 := by
    have : x * H < 2 ^ 64 * 2 ^ 64 := Nat.mul_lt_mul'' hx hH
    omega
  simp only [hhi, hmid, hmid2]
  have hT2 : T + mid2 * 2 ^ 64 + lo = hi * 2 ^ 128 + mid * 2 ^ 64 := by
    rw [d1] at hTL
    omega
  clear hTL d1 d2 hhi hmid hmid2 hlo hxL hT hPL hPd h1 h2
  obtain ⟨q, hq⟩ : ∃ q, hi / S = q := ⟨_, rfl⟩
  obtain ⟨r, hr⟩ : ∃ r, hi % S = r := ⟨_, rfl⟩
  have hqr : hi = q * S + r := by have := Nat.div_add_mod hi S; rw [hq, hr, Nat.mul_comm] at this; omega
  have hrS : r < S := hr ▸ Nat.mod_lt _ hS0
  have hhK : hi * 2 ^ 128 = q * K + r * 2 ^ 128 := by rw [hqr, ← hKd, Nat.add_mul, Nat.mul_assoc]
  have hSK : S * 2 ^ 128 = K := hKd
  -- where T lies tells where A lies
  have low : ∀ q, q * K + 2 ^ 64 ≤ T → q * m < A := fun q h => by
    apply Nat.lt_of_not_le
    intro hc
    have c1 : A * K ≤ q * m * K := Nat.mul_le_mul_right K hc
    have c2 : (q * K + 2 ^ 64) * m ≤ T * m := Nat.mul_le_mul_right m h
    rw [Nat.add_mul] at c2
    have e : q * m * K = q * K * m := by rw [Nat.mul_assoc, Nat.mul_comm m K, ← Nat.mul_assoc]
    omega
  have high : ∀ q, T < (q + 1) * K → A < (q + 1) * m := fun q h => by
    apply Nat.lt_of_not_le
    intro hc
    have c1 : (q + 1) * m * K ≤ A * K := Nat.mul_le_mul_right K hc
    have c2 : T * m < (q + 1) * K * m := Nat.mul_lt_mul_of_pos_right h hm
    have e : (q + 1) * m * K = (q + 1) * K * m := by rw [Nat.mul_assoc, Nat.mul_comm m K, ← Nat.mul_assoc]
    omega
  rw [hq]
  by_cases hr0 : r = 0
  · subst hr0
    have hqS : ¬ (q * S ≠ hi) := by omega
    rw [if_neg hqS]
    by_cases hlt : mid < mid2
    · rw [if_pos hlt]
      have hq1 : 1 ≤ q := by
        rcases Nat.eq_zero_or_pos q with h | h
        · subst h; omega
        · exact h
      obtain ⟨q', rfl⟩ : ∃ q', q = q' + 1 := ⟨q - 1, by omega⟩
      have e1 : (hi + 2 ^ 64 - 1) % 2 ^ 64 = hi - 1 := by
        have : 1 ≤ hi := by rw [hqr]; have := Nat.mul_le_mul hq1 hS0; omega
        omega
      have e2 : (hi - 1) / S = q' := by
        apply Nat.div_eq_of_lt_le
        · rw [Nat.add_mul] at hqr; omega
        · rw [Nat.add_mul] at hqr ⊢; omega
      rw [e1, e2, if_pos (by omega)]
      have hx1 : q' * m < A := low q' (by rw [Nat.add_mul] at hhK; omega)
      have hx2 : A < (q' + 1) * m := high q' (by omega)
      left
      rw [unr_eq hm (Nat.le_of_lt hx1) hx2, if_neg (by omega)]
    · rw [if_neg hlt]
      have e0 : hi / S = q := hq
      rw [e0]
      by_cases hd : mid2 + 2 ≤ mid
      · rw [if_pos (by omega)]
        have hx1 : q * m < A := low q (by omega)
        have hx2 : A < (q + 1) * m := high q (by rw [Nat.add_mul]; omega)
        left
        rw [unr_eq hm (Nat.le_of_lt hx1) hx2, if_neg (by omega)]
      · rw [if_neg (by omega), Nat.or_zero]
        have e : q * m * K = q * K * m := by rw [Nat.mul_assoc, Nat.mul_comm m K, ← Nat.mul_assoc]
        have c2 : T * m ≤ (q * K + 2 ^ 64) * m := Nat.mul_le_mul_right m (by omega)
        have c3 : q * K * m ≤ (T + 2 ^ 64) * m := Nat.mul_le_mul_right m (by omega)
        rw [Nat.add_mul] at c2 c3
        by_cases hAq : A = q * m
        · left
          rw [unr_eq hm (Nat.le_of_eq hAq.symm) (by rw [hAq, Nat.add_mul]; omega), if_pos hAq, Nat.or_zero]
        · refine .inr ⟨q, rfl, hAq, ?_, ?_⟩
          · apply Nat.lt_of_mul_lt_mul_right (a := 2 ^ 65)
            rw [Nat.add_mul, Nat.mul_assoc (q * m), Nat.mul_assoc A, hK2]
            omega
          · apply Nat.lt_of_mul_lt_mul_right (a := 2 ^ 65)
            rw [Nat.add_mul, Nat.mul_assoc (q * m), Nat.mul_assoc A, hK2]
            omega
  · have hqS : q * S ≠ hi := by omega
    rw [if_pos hqS]
    have hr1 : 1 * 2 ^ 128 ≤ r * 2 ^ 128 := Nat.mul_le_mul_right _ (by omega)
    have hr2 : r * 2 ^ 128 ≤ (S - 1) * 2 ^ 128 := Nat.mul_le_mul_right _ (by omega)
    have hr3 : (S - 1) * 2 ^ 128 + 1 * 2 ^ 128 = S * 2 ^ 128 := by
      rw [← Nat.add_mul]
      congr 1
      omega
    have hx1 : q * m < A := low q (by omega)
    have hx2 : A < (q + 1) * m := high q (by rw [Nat.add_mul]; omega)
    left
    rw [unr_eq hm (Nat.le_of_lt hx1) hx2, if_neg (by omega)]

theorem usc_exact (x H L s n m : Nat) (hx : x < 2 ^ 64) (hH : H < 2 ^ 64) (hL : L < 2 ^ 64) (hm : 0 < m) (hP : L ≤ H * 2 ^ 64)
    (h1 : n * 2 ^ (128 + s) ≤ (H * 2 ^ 64 - L) * m) (h2 : (H * 2 ^ 64 - L) * m < n * 2 ^ (128 + s) + m)
    (ha : ∀ y, x * n ≠ y * m → m + y * m * 2 ^ (63 + s) ≤ x * n * 2 ^ (63 + s) ∨ m + x * n * 2 ^ (63 + s) ≤ y * m * 2 ^ (63 + s)) :
    usc x H L s = unr (x * n) m := by
  rcases usc_near x H L s n m hx hH hL hm hP h1 h2 with h | ⟨q, _, hne, g1, g2⟩
  · exact h
  · exfalso
    rcases ha q hne with h | h <;> omega
end Go.Proofs.YtcfknhboicomjaaGreatDoor.Fy
