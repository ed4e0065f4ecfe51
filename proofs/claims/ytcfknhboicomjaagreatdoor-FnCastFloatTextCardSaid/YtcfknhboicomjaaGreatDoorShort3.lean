/- Plain: what the walk of strconv.shortFloat leans on. -/
import Derived.Test.YtcfknhboicomjaaGreatDoorShort2
namespace Go.Proofs.YtcfknhboicomjaaGreatDoor.Fy

structure Sh (m : Nat) (e : Int) (z : Nat) : Prop where
  e0 : -1137 ≤ e
  e1 : e ≤ 960
  z11 : 11 ≤ z
  z63 : z ≤ 63
  hz : shZ e = z
  p0 : -348 ≤ shP m e
  p1 : shP m e ≤ 347
  s0 : 0 ≤ -(e + l2 (shP m e) + 3)
  s1 : -(e + l2 (shP m e) + 3) < 64
  m0 : 2 ^ 63 ≤ m
  m1 : m < 2 ^ 64
  mn : 2 ^ (z - 1) ≤ m
  mx : shMax m e < 2 ^ 64
  ul : shU m e (shMin m e) < 2 ^ 61
  uh : shU m e (shMax m e) < 2 ^ 61
  um : shU m e m < 2 ^ 61
  uo : 1 ≤ shU m e (shMax m e)

theorem short_facts {mant : Nat} {E : Int} {z : Nat} (h : Flt mant E z) : Sh (mant * 2 ^ z) (E - z) z := by
  have hz := h.z11
  have hmz : ∀ t, t ≤ z → (2 : Nat) ^ z = 2 ^ t * 2 ^ (z - t) := fun t ht => by rw [← Nat.pow_add]; congr 1; omega
  -- the pieces of the code
  have e_z : shZ (E - z) = z := by
    unfold shZ
    by_cases hn : 2 ^ 52 ≤ mant
    · have := h.norm hn
      subst this
      rw [if_pos (by have := h.e0; omega)]
    · have hE : E = -1074 := by
        apply Decidable.byContradiction
        intro hc
        exact hn (h.nrm (by have := h.e0; omega))
      have h12 : 12 ≤ z := by
        apply Nat.le_of_not_lt
        intro hc
        have : z = 11 := by omega
        subst this
        have := h.z0
        omega
      rw [if_neg (by omega)]
      omega
  have e_sk : shSk (mant * 2 ^ z) (E - z) = decide (mant = 2 ^ 52 ∧ -1074 < E) := by
    unfold shSk
    apply decide_eq_decide.2
    constructor
    · intro ⟨h1, h2⟩
      have hz11 : z = 11 := by
        apply Decidable.byContradiction
        intro hc
        by_cases hn : 2 ^ 52 ≤ mant
        · exact hc (h.norm hn)
        · have hE : E = -1074 := by
            apply Decidable.byContradiction
            intro hc
            exact hn (h.nrm (by have := h.e0; omega))
          omega
      subst hz11
      exact ⟨by omega, by omega⟩
    · intro ⟨h1, h2⟩
      have := h.norm (by omega)
      subst this h1
      exact ⟨by decide, by omega⟩
  obtain ⟨skw, hskw⟩ : ∃ b, decide (mant = 2 ^ 52 ∧ -1074 < E) = b := ⟨_, rfl⟩
  rw [hskw] at e_sk
  obtain ⟨p, hp⟩ : ∃ p, (if skw then -sk E else -lg E) = p := ⟨_, rfl⟩
  have e_p : shP (mant * 2 ^ z) (E - z) = p := by
    unfold shP
    rw [e_sk, e_z, show E - (z : Int) + z = E by omega, hp]
  have hpor : p = -lg E ∨ (p = -sk E ∧ -1074 < E) := by
    rw [← hp]
    cases skw
    · left; rfl
    · right; exact ⟨rfl, (of_decide_eq_true hskw).2⟩
  have hP := pow_ok E h.e0 h.e1
  simp only [powOk, Bool.and_eq_true, decide_eq_true_eq] at hP
  obtain ⟨⟨⟨⟨⟨⟨⟨k1, k2⟩, k3⟩, k4⟩, k5⟩, k6⟩, k7⟩, k8⟩ := hP
  have hpr : -348 ≤ p ∧ p ≤ 347 := by
    rw [← hp]
    cases skw
    · exact ⟨k1, k2⟩
    · exact ⟨k5, k6⟩
  have e_lo : lo4 mant E = if skw then 4 * mant - 1 else 4 * mant - 2 := by
    unfold lo4
    rw [← hskw]
    by_cases hc : mant = 2 ^ 52 ∧ -1074 < E
    · simp [hc]
    · simp [hc]
  have e_min : shMin (mant * 2 ^ z) (E - z) = lo4 mant E * 2 ^ (z - 2) := by
    unfold shMin
    rw [e_sk, e_z, e_lo, ← z_split (M := mant) (z := z) (by omega)]
    have e2 : (2 : Nat) ^ (z - 1) = 2 * 2 ^ (z - 2) := by rw [show z - 1 = (z - 2) + 1 by omega, Nat.pow_succ, Nat.mul_comm]
    cases skw
    · simp only [Bool.false_eq_true, if_false]
      rw [e2, ← Nat.sub_mul]
    · simp only [if_true]
      rw [Nat.sub_mul, Nat.one_mul]
  have e_max : shMax (mant * 2 ^ z) (E - z) = (4 * mant + 2) * 2 ^ (z - 2) := by
    unfold shMax
    rw [e_z, ← z_split (M := mant) (z := z) (by omega)]
    have e2 : (2 : Nat) ^ (z - 1) = 2 * 2 ^ (z - 2) := by rw [show z - 1 = (z - 2) + 1 by omega, Nat.pow_succ, Nat.mul_comm]
    rw [e2, Nat.add_mul]
  have e_odd : shOdd (mant * 2 ^ z) (E - z) = mant % 2 := by
    unfold shOdd
    rw [e_z, Nat.mul_div_cancel _ (Nat.pow_pos (by omega))]
  have hs0 : 0 ≤ -(E - (z : Int) + l2 p + 3) := by
    have hN := near_ok E h.e0 h.e1
    have : 0 ≤ sOf E p := by
      rcases hpor with rfl | ⟨rfl, _⟩
      · have := hN.1
        simp only [chkE, Bool.and_eq_true, decide_eq_true_eq] at this
        exact this.1
      · have := hN.2
        simp only [chkE, Bool.and_eq_true, decide_eq_true_eq] at this
        exact this.1
    unfold sOf at this
    omega
  have hU : ∀ M, 4 * mant ≤ M + 2 → M ≤ 4 * mant + 2 → shU (mant * 2 ^ z) (E - z) (M * 2 ^ (z - 2)) = unr (M * up E p) (up (-E) (-p)) := fun M a b => by
    unfold shU
    rw [e_p]
    exact flt_usc h p hpor M a b _ (by omega)
  have hlo2 : 4 * mant ≤ lo4 mant E + 2 := by rw [e_lo]; cases skw <;> simp <;> omega
  have hlo3 : lo4 mant E ≤ 4 * mant + 2 := by rw [e_lo]; cases skw <;> simp <;> omega
  have u1 := hU (lo4 mant E) hlo2 hlo3
  have u2 := hU (4 * mant + 2) (by omega) (by omega)
  have u3 := hU (4 * mant) (by omega) (by omega)
  rw [z_split (M := mant) (z := z) (by omega)] at u3
  -- numbers
  obtain ⟨n, hn⟩ : ∃ n, up E p = n := ⟨_, rfl⟩
  obtain ⟨m, hm⟩ : ∃ m, up (-E) (-p) = m := ⟨_, rfl⟩
  have hm0 : 0 < m := hm ▸ up_pos _ _
  have hmn : m ≤ n ∧ (skw = true → 4 * m ≤ 3 * n) := by
    rw [← hm, ← hn, ← hp]
    cases skw
    · exact ⟨by simpa using k3, fun h => by cases h⟩
    · exact ⟨by have := k7; simp only [if_true, Int.neg_neg]; omega, fun _ => by simpa using k7⟩
  have hn14 : 3 * n < 40 * m ∧ (skw = false → n < 10 * m) := by
    rw [← hm, ← hn, ← hp]
    cases skw
    · exact ⟨by have := k4; simp only [Bool.false_eq_true, if_false, Int.neg_neg]; omega, fun _ => by simpa using k4⟩
    · exact ⟨by simpa using k8, fun h => by cases h⟩
  have hub : ∀ M, M ≤ 4 * mant + 2 → unr (M * up E p) (up (-E) (-p)) < 2 ^ 61 := fun M hM => by
    rw [hn, hm]
    obtain ⟨q, hq⟩ := unr_cases (a := M * n) hm0
    have b1 : M * n ≤ (4 * mant + 2) * n := Nat.mul_le_mul_right n hM
    have b2 : (4 * mant + 2) * n ≤ 2 ^ 55 * n := Nat.mul_le_mul_right n (by have := h.m1; omega)
    have b3 : 2 ^ 55 * n ≤ 2 ^ 55 * (14 * m) := Nat.mul_le_mul_left _ (by have := hn14.1; omega)
    have b4 : q * m < (2 ^ 60) * m := by
      have : 2 ^ 55 * (14 * m) < 2 ^ 60 * m := by
        have e : 2 ^ 55 * (14 * m) = (2 ^ 55 * 14) * m := by rw [Nat.mul_assoc]
        rw [e]
        exact Nat.mul_lt_mul_of_pos_right (by decide) hm0
      rcases hq with ⟨a, _⟩ | ⟨a, _, _⟩ <;> omega
    have b5 := Nat.lt_of_mul_lt_mul_right b4
    rcases hq with ⟨_, b⟩ | ⟨_, _, b⟩ <;> omega
  have he0 := h.e0
  have he1 := h.e1
  have hz63 := h.z63
  have hm1 := h.m1
  have hm0' := h.m0
  have hpow : 1 ≤ 2 ^ (z - 2) := Nat.pow_pos (by omega)
  have e21 : (2 : Nat) ^ (z - 1) = 2 * 2 ^ (z - 2) := by rw [show z - 1 = (z - 2) + 1 by omega, Nat.pow_succ, Nat.mul_comm]
  have e22 : (2 : Nat) ^ z = 4 * 2 ^ (z - 2) := by rw [show z = (z - 2) + 2 by omega, Nat.pow_add]; simp; omega
  refine ⟨by omega, by omega, hz, hz63, e_z, by rw [e_p]; exact hpr.1, by rw [e_p]; exact hpr.2, by rw [e_p]; exact hs0, ?_, h.z0, h.z1, ?_, ?_, ?_, ?_, ?_, ?_⟩
  · rw [e_p]
    rcases hpor with rfl | ⟨rfl, _⟩
    · unfold l2 lg; omega
    · unfold l2 sk; omega
  · rw [e21, e22]
    have := Nat.mul_le_mul hm0' (Nat.le_refl (4 * 2 ^ (z - 2)))
    omega
  · rw [e_max]
    have g1 : mant < 2 ^ (64 - z) := by
      have := h.z1
      rw [show (2 : Nat) ^ 64 = 2 ^ (64 - z) * 2 ^ z by rw [← Nat.pow_add]; congr 1; omega] at this
      exact Nat.lt_of_mul_lt_mul_right this
    have g2 : (mant + 1) * 2 ^ z ≤ 2 ^ 64 := by
      rw [show (2 : Nat) ^ 64 = 2 ^ (64 - z) * 2 ^ z by rw [← Nat.pow_add]; congr 1; omega]
      exact Nat.mul_le_mul_right _ g1
    rw [e22, show (mant + 1) * (4 * 2 ^ (z - 2)) = (4 * mant + 4) * 2 ^ (z - 2) by rw [← Nat.mul_assoc]; congr 1; omega] at g2
    have g3 : (4 * mant + 2) * 2 ^ (z - 2) < (4 * mant + 4) * 2 ^ (z - 2) := Nat.mul_lt_mul_of_pos_right (by omega) (by omega)
    omega
  · rw [e_min, u1]; exact hub _ hlo3
  · rw [e_max, u2]; exact hub _ (by omega)
  · have := u3; rw [show mant * 2 ^ z = 4 * mant * 2 ^ (z - 2) by rw [z_split (M := mant) (z := z) (by omega)]] at this ⊢; rw [this]; exact hub _ (by omega)
  · rw [e_max, u2]
    have := (floor0 (a := (4 * mant + 2) * up E p) (d := 1) (up_pos (-E) (-p))).2 (by
      rw [hn, hm]
      exact Nat.mul_le_mul (show 4 * 1 ≤ 4 * mant + 2 by have := h.m0; omega) hmn.1)
    omega
end Go.Proofs.YtcfknhboicomjaaGreatDoor.Fy
