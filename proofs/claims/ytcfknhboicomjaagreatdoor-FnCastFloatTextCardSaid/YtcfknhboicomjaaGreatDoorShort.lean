/- Plain: strconv's shortFloat, on numbers: what it gives lies between the float's boundaries. -/
import Derived.Test.YtcfknhboicomjaaGreatDoorUsc
namespace Go.Proofs.YtcfknhboicomjaaGreatDoor.Fy

def powOk (E : Int) : Bool :=
  decide (-348 ≤ -lg E) && decide (-lg E ≤ 347) && decide (up (-E) (lg E) ≤ up E (-lg E)) && decide (up E (-lg E) < 10 * up (-E) (lg E)) &&
  decide (-348 ≤ -sk E) && decide (-sk E ≤ 347) && decide (4 * up (-E) (sk E) ≤ 3 * up E (-sk E)) && decide (3 * up E (-sk E) < 40 * up (-E) (sk E))
def allPow : Nat → Bool
  | 0 => true
  | i + 1 => powOk ((i : Int) - 1074) && allPow i
theorem all_pow : allPow 2046 = true := by decide +kernel
theorem pow_at : ∀ (n i : Nat), allPow n = true → i < n → powOk ((i : Int) - 1074) = true
  | 0, i, _, h => absurd h (by omega)
  | n + 1, i, h, hi => by
    simp only [allPow, Bool.and_eq_true] at h
    by_cases e : i = n
    · subst e; exact h.1
    · exact pow_at n i h.2 (by omega)
theorem pow_ok (E : Int) (h0 : -1074 ≤ E) (h1 : E ≤ 971) : powOk E = true := by
  have := pow_at 2046 (E + 1074).toNat all_pow (by omega)
  rwa [show (((E + 1074).toNat : Nat) : Int) - 1074 = E by omega] at this
theorem near_at : ∀ (n i : Nat), allE n = true → i < n → chkE ((i : Int) - 1074) (-lg ((i : Int) - 1074)) = true ∧ chkE ((i : Int) - 1074) (-sk ((i : Int) - 1074)) = true
  | 0, i, _, h => absurd h (by omega)
  | n + 1, i, h, hi => by
    simp only [allE, Bool.and_eq_true] at h
    by_cases e : i = n
    · subst e; exact h.1
    · exact near_at n i h.2 (by omega)
theorem near_ok (E : Int) (h0 : -1074 ≤ E) (h1 : E ≤ 971) : chkE E (-lg E) = true ∧ chkE E (-sk E) = true := by
  have := near_at 2046 (E + 1074).toNat all_E (by omega)
  rwa [show (((E + 1074).toNat : Nat) : Int) - 1074 = E by omega] at this
theorem near_sub : chk (up (-1074) (-lg (-1074))) (up 1074 (lg (-1074))) (2 ^ 55 + 3) (2 ^ 64) (52 + (sOf (-1074) (-lg (-1074))).toNat) = true := by decide +kernel

/-- A float mant 2^E, and z: by how much mant is moved up to 64 bits. -/
structure Flt (mant : Nat) (E : Int) (z : Nat) : Prop where
  e0 : -1074 ≤ E
  e1 : E ≤ 971
  m0 : 0 < mant
  m1 : mant < 2 ^ 53
  nrm : -1074 < E → 2 ^ 52 ≤ mant
  z0 : 2 ^ 63 ≤ mant * 2 ^ z
  z1 : mant * 2 ^ z < 2 ^ 64

theorem Flt.z11 {mant : Nat} {E : Int} {z : Nat} (h : Flt mant E z) : 11 ≤ z := by
  apply Nat.le_of_not_lt
  intro hc
  have : mant * 2 ^ z ≤ mant * 2 ^ 10 := Nat.mul_le_mul_left _ (Nat.pow_le_pow_right (by omega) (by omega))
  have := h.z0
  have := h.m1
  omega
theorem Flt.z63 {mant : Nat} {E : Int} {z : Nat} (h : Flt mant E z) : z ≤ 63 := by
  apply Nat.le_of_not_lt
  intro hc
  have h1 : 1 * 2 ^ 64 ≤ mant * 2 ^ z := Nat.mul_le_mul h.m0 (Nat.pow_le_pow_right (by omega) (by omega))
  have := h.z1
  omega
theorem Flt.norm {mant : Nat} {E : Int} {z : Nat} (h : Flt mant E z) (hm : 2 ^ 52 ≤ mant) : z = 11 := by
  have := h.z11
  apply Decidable.byContradiction
  intro hc
  have h1 : 2 ^ 52 * 2 ^ 12 ≤ mant * 2 ^ z := Nat.mul_le_mul hm (Nat.pow_le_pow_right (by omega) (by omega))
  have := h.z1
  omega
theorem z_split {M z : Nat} (hz : 2 ≤ z) : 4 * M * 2 ^ (z - 2) = M * 2 ^ z := by
  have : (2 : Nat) ^ z = 4 * 2 ^ (z - 2) := by
    rw [show (4 : Nat) = 2 ^ 2 by rfl, ← Nat.pow_add]
    congr 1
    omega
  rw [this]
  simp only [Nat.mul_comm, Nat.mul_left_comm, Nat.mul_assoc]

/-- The boundaries' and the float's own multiple, uscaled. -/
theorem flt_usc {mant : Nat} {E : Int} {z : Nat} (h : Flt mant E z) (p : Int) (hp : p = -lg E ∨ (p = -sk E ∧ -1074 < E)) (M : Nat) (hM0 : 4 * mant ≤ M + 2) (hM1 : M ≤ 4 * mant + 2) (s : Nat) (hs : (s : Int) = -(E - z + l2 p + 3)) :
    usc (M * 2 ^ (z - 2)) (rowOf p).1 (rowOf p).2 s = unr (M * up E p) (up (-E) (-p)) := by
  have hz := h.z11
  have hP := pow_ok E h.e0 h.e1
  have hN := near_ok E h.e0 h.e1
  simp only [powOk, Bool.and_eq_true, decide_eq_true_eq] at hP
  obtain ⟨⟨⟨⟨⟨⟨⟨k1, k2⟩, k3⟩, k4⟩, k5⟩, k6⟩, k7⟩, k8⟩ := hP
  have hpr : -348 ≤ p ∧ p ≤ 347 := by
    rcases hp with rfl | ⟨rfl, _⟩
    · exact ⟨k1, k2⟩
    · exact ⟨k5, k6⟩
  have hx : M * 2 ^ (z - 2) < 2 ^ 64 := by
    have e := z_split (M := mant) (z := z) (by omega)
    have h1 := h.z1
    -- mant 2^z is a multiple of 2^z below 2^64
    have hd : mant * 2 ^ z + 2 ^ z ≤ 2 ^ 64 := by
      have e64 : (2 : Nat) ^ 64 = 2 ^ (64 - z) * 2 ^ z := by rw [← Nat.pow_add]; congr 1; have := h.z63; omega
      rw [e64] at h1 ⊢
      have : mant < 2 ^ (64 - z) := Nat.lt_of_mul_lt_mul_right h1
      have := Nat.mul_le_mul_right (2 ^ z) (show mant + 1 ≤ 2 ^ (64 - z) from this)
      rw [Nat.add_mul] at this
      omega
    have h2 : M * 2 ^ (z - 2) ≤ (4 * mant + 2) * 2 ^ (z - 2) := Nat.mul_le_mul_right _ hM1
    have h3 : (2 : Nat) ^ z = 4 * 2 ^ (z - 2) := by
      rw [show (4 : Nat) = 2 ^ 2 by rfl, ← Nat.pow_add]; congr 1; omega
    have h4 : 0 < 2 ^ (z - 2) := Nat.pow_pos (by omega)
    rw [Nat.add_mul, e] at h2
    omega
  refine usc_at E p z M s (by omega) hpr.1 hpr.2 hs hx ?_
  intro y hne
  have hm0 : 0 < up (-E) (-p) := up_pos _ _
  have hM00 : 0 < M := by have := h.m0; omega
  have hMB : M < 2 ^ 55 + 3 := by have := h.m1; omega
  by_cases hnm : 2 ^ 52 ≤ mant
  · have hz11 := h.norm hnm
    subst hz11
    have hck : chkE E p = true := by
      rcases hp with rfl | ⟨rfl, _⟩
      · exact hN.1
      · exact hN.2
    simp only [chkE, Bool.and_eq_true, decide_eq_true_eq] at hck
    obtain ⟨c1, c2⟩ := hck
    have es : (sOf E p).toNat = s := by unfold sOf at c1 ⊢; omega
    rw [es] at c2
    have := chk_apart c2 hm0 hM00 hMB 0 (by rw [Nat.pow_zero]; omega) y hne
    simpa using this
  · have hE : E = -1074 := by
      apply Decidable.byContradiction
      intro hc
      exact hnm (h.nrm (by have := h.e0; omega))
    subst hE
    have hpp : p = -lg (-1074) := by
      rcases hp with rfl | ⟨_, h2⟩
      · rfl
      · omega
    subst hpp
    have c2 := near_sub
    have s0 : sOf (-1074) (-lg (-1074)) = 8 ∨ sOf (-1074) (-lg (-1074)) = 7 ∨ sOf (-1074) (-lg (-1074)) = 6 ∨ sOf (-1074) (-lg (-1074)) = 5 := by decide
    have es : 52 + (sOf (-1074) (-lg (-1074))).toNat + z = 63 + s := by
      have : sOf (-1074) (-lg (-1074)) = -(-1074 - 11 + l2 (-lg (-1074)) + 3) := rfl
      omega
    have hL : 2 ^ 64 ≤ M * 2 ^ z := by
      have e := z_split (M := M) (z := z) (by omega)
      have h5 : mant * 2 ^ z ≤ 4 * mant * 2 ^ (z - 2) := by rw [z_split (by omega)]; exact Nat.le_refl _
      -- M >= 4 mant - 2 >= 2 mant
      have h6 : 2 * mant ≤ M := by have := h.m0; omega
      have h7 : 2 * mant * 2 ^ z ≤ M * 2 ^ z := Nat.mul_le_mul_right _ h6
      have h8 := h.z0
      rw [Nat.mul_assoc] at h7
      omega
    have := chk_apart c2 (show 0 < up 1074 (lg (-1074)) from up_pos _ _) hM00 hMB z hL y hne
    rw [es] at this
    exact this
end Go.Proofs.YtcfknhboicomjaaGreatDoor.Fy
