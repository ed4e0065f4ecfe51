/- Plain: strconv's parseFloat64, on numbers: a decimal between a float's boundaries is that float. -/
import Derived.Test.YtcfknhboicomjaaGreatDoorShort2
namespace Go.Proofs.YtcfknhboicomjaaGreatDoor.Fy

/-- No decimal comes too near a boundary of a float of an odd mantissa. -/
def chkH (E p : Int) : Bool := chk (up E p) (2 * up (-E) (-p)) (2 ^ 54 + 2) (2 ^ 53 - 1) 69
def allH : Nat → Bool
  | 0 => true
  | i + 1 => chkH ((i : Int) - 1074) (-lg ((i : Int) - 1074)) && chkH ((i : Int) - 1074) (-sk ((i : Int) - 1074)) && allH i
theorem all_H : allH 2046 = true := by decide +kernel
theorem half_at : ∀ (n i : Nat), allH n = true → i < n → chkH ((i : Int) - 1074) (-lg ((i : Int) - 1074)) = true ∧ chkH ((i : Int) - 1074) (-sk ((i : Int) - 1074)) = true
  | 0, i, _, h => absurd h (by omega)
  | n + 1, i, h, hi => by
    simp only [allH, Bool.and_eq_true] at h
    by_cases e : i = n
    · subst e; exact h.1
    · exact half_at n i h.2 (by omega)
theorem half_ok (E : Int) (h0 : -1074 ≤ E) (h1 : E ≤ 971) : chkH E (-lg E) = true ∧ chkH E (-sk E) = true := by
  have := half_at 2046 (E + 1074).toNat all_H (by omega)
  rwa [show (((E + 1074).toNat : Nat) : Int) - 1074 = E by omega] at this
theorem half_sub : chk (up (-1074) (-lg (-1074))) (2 * up 1074 (lg (-1074))) (2 ^ 54 + 2) (2 ^ 60) 61 = true := by decide +kernel

/-- 2^a 10^b times 2^c 10^d, above and below the line. -/
theorem up_mul (a b c d : Int) : up a b * up c d * up (-(a + c)) (-(b + d)) = up (a + c) (b + d) * (up (-a) (-b) * up (-c) (-d)) := by
  unfold up
  have e2 : (2 : Nat) ^ a.toNat * 2 ^ c.toNat * 2 ^ (-(a + c)).toNat = 2 ^ (a + c).toNat * (2 ^ (-a).toNat * 2 ^ (-c).toNat) := by
    rw [← Nat.pow_add, ← Nat.pow_add, ← Nat.pow_add, ← Nat.pow_add]; congr 1; omega
  have e10 : (10 : Nat) ^ b.toNat * 10 ^ d.toNat * 10 ^ (-(b + d)).toNat = 10 ^ (b + d).toNat * (10 ^ (-b).toNat * 10 ^ (-d).toNat) := by
    rw [← Nat.pow_add, ← Nat.pow_add, ← Nat.pow_add, ← Nat.pow_add]; congr 1; omega
  obtain ⟨a1, h1⟩ : ∃ x, (2 : Nat) ^ a.toNat = x := ⟨_, rfl⟩
  obtain ⟨a2, h2⟩ : ∃ x, (2 : Nat) ^ c.toNat = x := ⟨_, rfl⟩
  obtain ⟨a3, h3⟩ : ∃ x, (2 : Nat) ^ (-(a + c)).toNat = x := ⟨_, rfl⟩
  obtain ⟨a4, h4⟩ : ∃ x, (2 : Nat) ^ (a + c).toNat = x := ⟨_, rfl⟩
  obtain ⟨a5, h5⟩ : ∃ x, (2 : Nat) ^ (-a).toNat = x := ⟨_, rfl⟩
  obtain ⟨a6, h6⟩ : ∃ x, (2 : Nat) ^ (-c).toNat = x := ⟨_, rfl⟩
  obtain ⟨b1, g1⟩ : ∃ x, (10 : Nat) ^ b.toNat = x := ⟨_, rfl⟩
  obtain ⟨b2, g2⟩ : ∃ x, (10 : Nat) ^ d.toNat = x := ⟨_, rfl⟩
  obtain ⟨b3, g3⟩ : ∃ x, (10 : Nat) ^ (-(b + d)).toNat = x := ⟨_, rfl⟩
  obtain ⟨b4, g4⟩ : ∃ x, (10 : Nat) ^ (b + d).toNat = x := ⟨_, rfl⟩
  obtain ⟨b5, g5⟩ : ∃ x, (10 : Nat) ^ (-b).toNat = x := ⟨_, rfl⟩
  obtain ⟨b6, g6⟩ : ∃ x, (10 : Nat) ^ (-d).toNat = x := ⟨_, rfl⟩
  rw [h1, h2, h3, h4, h5, h6] at e2
  rw [g1, g2, g3, g4, g5, g6] at e10
  rw [h1, h2, h3, h4, h5, h6, g1, g2, g3, g4, g5, g6]
  calc a1 * b1 * (a2 * b2) * (a3 * b3) = (a1 * a2 * a3) * (b1 * b2 * b3) := by simp only [Nat.mul_comm, Nat.mul_left_comm, Nat.mul_assoc]
    _ = (a4 * (a5 * a6)) * (b4 * (b5 * b6)) := by rw [e2, e10]
    _ = _ := by simp only [Nat.mul_comm, Nat.mul_left_comm, Nat.mul_assoc]

theorem rnd_int {q mant : Nat} (k1 : 4 * mant ≤ q + 2) (k2 : q ≤ 4 * mant + 2) (k3 : mant % 2 = 1 → 4 * mant < q + 2 ∧ q < 4 * mant + 2) : rnd q = mant := by
  have hq : q + 2 = 4 * mant ∨ q + 1 = 4 * mant ∨ q = 4 * mant ∨ q = 4 * mant + 1 ∨ q = 4 * mant + 2 := by omega
  unfold rnd
  rcases hq with h | h | h | h | h
  · have h0 : mant % 2 = 0 := by
      rcases Nat.mod_two_eq_zero_or_one mant with h' | h'
      · exact h'
      · have := k3 h'; omega
    have : q / 4 = mant - 1 := by omega
    rw [this]; omega
  · have : q / 4 = mant - 1 := by omega
    rw [this]; omega
  · have : q / 4 = mant := by omega
    rw [this]; omega
  · have : q / 4 = mant := by omega
    rw [this]; omega
  · have h0 : mant % 2 = 0 := by
      rcases Nat.mod_two_eq_zero_or_one mant with h' | h'
      · exact h'
      · have := k3 h'; omega
    have : q / 4 = mant := by omega
    rw [this]; omega
/-- Between boundaries, so to the float: whatever is cut and rounded half to even. -/
theorem rnd_mant {a b mant : Nat} (hb : 0 < b) (h1 : 4 * mant * b ≤ a + 2 * b) (h2 : a ≤ (4 * mant + 2) * b) (h3 : mant % 2 = 1 → 4 * mant * b < a + 2 * b ∧ a < (4 * mant + 2) * b) : rnd (unr a b) = mant := by
  obtain ⟨q, ⟨g1, g2⟩ | ⟨g1, g2, g3⟩⟩ := unr_cases (a := a) hb
  · rw [g2]
    rw [g1, ← Nat.add_mul] at h1 h3
    rw [g1] at h2
    have k1 := Nat.le_of_mul_le_mul_right h1 hb
    have k2 := Nat.le_of_mul_le_mul_right h2 hb
    have k3 : mant % 2 = 1 → 4 * mant < q + 2 ∧ q < 4 * mant + 2 := fun h => ⟨Nat.lt_of_mul_lt_mul_right (h3 h).1, Nat.lt_of_mul_lt_mul_right (h3 h).2⟩
    clear h1 h2 h3 g1
    exact rnd_int k1 k2 k3
  · rw [g3]
    have k1 : 4 * mant < q + 1 + 2 := by
      apply Nat.lt_of_mul_lt_mul_right (a := b)
      rw [Nat.add_mul (q + 1)]
      omega
    have k2 : q < 4 * mant + 2 := Nat.lt_of_mul_lt_mul_right (Nat.lt_of_lt_of_le g1 h2)
    unfold rnd
    omega
def halve (u : Nat) : Nat := u / 2 ||| u % 2
theorem halve_unr {a b : Nat} (hb : 0 < b) : halve (unr a b) = unr a (2 * b) := by
  obtain ⟨q, ⟨g1, g2⟩ | ⟨g1, g2, g3⟩⟩ := unr_cases (a := a) hb
  · rw [g2]
    unfold halve
    have h2 : q / 2 * (2 * b) ≤ a := by
      rw [g1, ← Nat.mul_assoc]
      exact Nat.mul_le_mul_right b (by omega)
    have h3 : a < (q / 2 + 1) * (2 * b) := by
      rw [g1, ← Nat.mul_assoc]
      exact Nat.mul_lt_mul_of_pos_right (by omega) hb
    rw [unr_eq (by omega) h2 h3]
    congr 1
    by_cases he : q % 2 = 0
    · rw [he, if_pos]
      rw [g1, ← Nat.mul_assoc]
      congr 1
      omega
    · rw [if_neg]
      · omega
      · rw [g1, ← Nat.mul_assoc]
        intro hc
        have := Nat.eq_of_mul_eq_mul_right hb hc
        omega
  · rw [g3]
    unfold halve
    have h2 : q / 2 * (2 * b) ≤ a := by
      rw [← Nat.mul_assoc]
      exact Nat.le_trans (Nat.mul_le_mul_right b (by omega)) (Nat.le_of_lt g1)
    have h3 : a < (q / 2 + 1) * (2 * b) := by
      rw [← Nat.mul_assoc]
      exact Nat.lt_of_lt_of_le g2 (Nat.mul_le_mul_right b (by omega))
    have hne : a ≠ q / 2 * (2 * b) := by
      rw [← Nat.mul_assoc]
      have : q / 2 * 2 * b ≤ q * b := Nat.mul_le_mul_right b (by omega)
      omega
    rw [unr_eq (by omega) h2 h3, if_neg hne]
    congr 1 <;> omega
end Go.Proofs.YtcfknhboicomjaaGreatDoor.Fy
