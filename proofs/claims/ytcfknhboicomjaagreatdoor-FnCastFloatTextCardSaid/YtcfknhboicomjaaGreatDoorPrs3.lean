/- Plain: strconv's parseFloat64, on numbers: a decimal between a float's boundaries is that float. -/
import Derived.Test.YtcfknhboicomjaaGreatDoorPrs2
namespace Go.Proofs.YtcfknhboicomjaaGreatDoor.Fy

theorem two_lt {a b : Nat} (h : (2 : Nat) ^ a < 2 ^ b) : a < b := (Nat.pow_lt_pow_iff_right (by omega)).1 h

/-- The same decimal in other words lies between the same boundaries. -/
theorem move {L Ep Em Pp Pm Qp Qm d D : Nat} (hPp : 0 < Pp) (hQm : 0 < Qm) (hv : d * Qp * Pp = D * Pm * Qm) :
    (L * (Ep * Pp) ≤ 4 * D * (Em * Pm) → L * (Ep * Qm) ≤ 4 * d * (Em * Qp)) ∧ (4 * D * (Em * Pm) ≤ L * (Ep * Pp) → 4 * d * (Em * Qp) ≤ L * (Ep * Qm)) ∧
    (L * (Ep * Pp) < 4 * D * (Em * Pm) → L * (Ep * Qm) < 4 * d * (Em * Qp)) ∧ (4 * D * (Em * Pm) < L * (Ep * Pp) → 4 * d * (Em * Qp) < L * (Ep * Qm)) := by
  have e1 : L * (Ep * Pp) * Qm = L * (Ep * Qm) * Pp := by simp only [Nat.mul_comm, Nat.mul_left_comm, Nat.mul_assoc]
  have e2 : 4 * D * (Em * Pm) * Qm = 4 * d * (Em * Qp) * Pp := by
    calc 4 * D * (Em * Pm) * Qm = 4 * Em * (D * Pm * Qm) := by simp only [Nat.mul_comm, Nat.mul_left_comm, Nat.mul_assoc]
      _ = 4 * Em * (d * Qp * Pp) := by rw [hv]
      _ = _ := by simp only [Nat.mul_comm, Nat.mul_left_comm, Nat.mul_assoc]
  refine ⟨fun g => ?_, fun g => ?_, fun g => ?_, fun g => ?_⟩
  · have := Nat.mul_le_mul_right Qm g
    rw [e1, e2] at this
    exact Nat.le_of_mul_le_mul_right this hPp
  · have := Nat.mul_le_mul_right Qm g
    rw [e1, e2] at this
    exact Nat.le_of_mul_le_mul_right this hPp
  · have := Nat.mul_lt_mul_of_pos_right g hQm
    rw [e1, e2] at this
    exact Nat.lt_of_mul_lt_mul_right this
  · have := Nat.mul_lt_mul_of_pos_right g hQm
    rw [e1, e2] at this
    exact Nat.lt_of_mul_lt_mul_right this

theorem lo4_facts {mant : Nat} {E : Int} (h0 : 0 < mant) : 4 * mant ≤ lo4 mant E + 2 ∧ 2 ≤ lo4 mant E ∧ (2 ^ 52 ≤ mant → -1074 < E → 2 ^ 54 - 1 ≤ lo4 mant E) ∧ (mant % 2 = 1 → lo4 mant E = 4 * mant - 2) := by
  unfold lo4
  split
  · rename_i h
    exact ⟨by omega, by omega, fun _ _ => by omega, fun ho => by omega⟩
  · rename_i h
    refine ⟨by omega, by omega, fun hm hE => ?_, fun _ => rfl⟩
    have : mant ≠ 2 ^ 52 := fun e => h ⟨e, hE⟩
    omega

/-- A boundary that the decimal comes so near is the decimal. -/
theorem no_near {mant : Nat} {E : Int} {z : Nat} (h : Flt mant E z) {p : Int} (hp : p = -lg E ∨ (p = -sk E ∧ -1074 < E)) {D : Nat} (ho : mant % 2 = 1) {B c d n m s nE mE : Nat} (hB : B = 4 * mant - 2 ∨ B = 4 * mant + 2)
    (hnE : up E p = nE) (hmE : up (-E) (-p) = mE) (hm : 0 < m) (hR : d * n * nE = D * (2 ^ (c + 2) * (mE * m))) (hs : 2 ^ 52 ≤ mant → 8 ≤ s) (hsub : ¬ 2 ^ 52 ≤ mant → 2 ^ 61 ≤ B * 2 ^ s)
    (hne : d * n ≠ B * 2 ^ c * m) (q1 : d * n * 2 ^ (63 + s) < B * 2 ^ c * m * 2 ^ (63 + s) + m) (q2 : B * 2 ^ c * m * 2 ^ (63 + s) < d * n * 2 ^ (63 + s) + m) : False := by
  have h0 := h.m0
  have h1 := h.m1
  obtain ⟨K, hK⟩ : ∃ K, B = 2 * K ∧ 0 < K ∧ K < 2 ^ 54 + 2 ∧ (2 ^ 52 ≤ mant → 2 ^ 53 - 1 ≤ K) := by
    rcases hB with rfl | rfl
    · exact ⟨2 * mant - 1, by omega, by omega, by omega, fun _ => by omega⟩
    · exact ⟨2 * mant + 1, by omega, by omega, by omega, fun _ => by omega⟩
  obtain ⟨hBK, K0, K1, K2⟩ := hK
  have hmE0 : 0 < mE := hmE ▸ up_pos _ _
  have hnE0 : 0 < nE := hnE ▸ up_pos _ _
  have hn16 : nE < 16 * mE := by
    have hP := pow_ok E h.e0 h.e1
    simp only [powOk, Bool.and_eq_true, decide_eq_true_eq] at hP
    obtain ⟨⟨⟨⟨⟨⟨⟨k1, k2⟩, k3⟩, k4⟩, k5⟩, k6⟩, k7⟩, k8⟩ := hP
    rw [← hnE, ← hmE]
    rcases hp with rfl | ⟨rfl, _⟩
    · rw [Int.neg_neg]; omega
    · rw [Int.neg_neg]; omega
  -- the multiple of the boundary is not the decimal's
  have hKne : K * nE ≠ D * (2 * mE) := by
    intro hc
    apply hne
    apply Nat.eq_of_mul_eq_mul_right hnE0
    rw [hR, hBK]
    have hp4 : (2 : Nat) ^ (c + 2) = 2 * (2 * 2 ^ c) := by rw [Nat.pow_succ, Nat.pow_succ]; omega
    calc D * (2 ^ (c + 2) * (mE * m)) = D * (2 * mE) * (2 ^ c * (2 * m)) := by rw [hp4]; simp only [Nat.mul_comm, Nat.mul_left_comm, Nat.mul_assoc]
      _ = K * nE * (2 ^ c * (2 * m)) := by rw [hc]
      _ = _ := by simp only [Nat.mul_comm, Nat.mul_left_comm, Nat.mul_assoc]
  -- the certificate
  obtain ⟨t, hkt, hchk⟩ : ∃ t, 16 * 2 ^ t ≤ 2 ^ (c + 2) * 2 ^ (63 + s) ∧ (2 * mE + D * (2 * mE) * 2 ^ t ≤ K * nE * 2 ^ t ∨ 2 * mE + K * nE * 2 ^ t ≤ D * (2 * mE) * 2 ^ t) := by
    by_cases hn : 2 ^ 52 ≤ mant
    · have hck : chkH E p = true := by
        have := half_ok E h.e0 h.e1
        rcases hp with rfl | ⟨rfl, _⟩
        · exact this.1
        · exact this.2
      unfold chkH at hck
      rw [hnE, hmE] at hck
      refine ⟨69 + 0, ?_, chk_apart hck (by omega) K0 K1 0 (by rw [Nat.pow_zero]; have := K2 hn; omega) D hKne⟩
      have := hs hn
      rw [show (16 : Nat) = 2 ^ 4 by rfl, ← Nat.pow_add, ← Nat.pow_add]
      exact Nat.pow_le_pow_right (by omega) (by omega)
    · have hE : E = -1074 := by
        apply Decidable.byContradiction
        intro hc
        exact hn (h.nrm (by have := h.e0; omega))
      subst hE
      have hpp : p = -lg (-1074) := by
        rcases hp with rfl | ⟨_, h2⟩
        · rfl
        · omega
      subst hpp
      have hck : chk (up (-1074) (-lg (-1074))) (2 * up (-(-1074)) (-(-lg (-1074)))) (2 ^ 54 + 2) (2 ^ 60) 61 = true := by
        rw [Int.neg_neg, Int.neg_neg]
        exact half_sub
      rw [hnE, hmE] at hck
      refine ⟨61 + s, ?_, chk_apart hck (by omega) K0 K1 s ?_ D hKne⟩
      · rw [show (16 : Nat) = 2 ^ 4 by rfl, ← Nat.pow_add, ← Nat.pow_add]
        exact Nat.pow_le_pow_right (by omega) (by omega)
      · have := hsub hn
        rw [hBK, Nat.mul_assoc] at this
        omega
  obtain ⟨T, hT⟩ : ∃ T, (2 : Nat) ^ t = T := ⟨_, rfl⟩
  obtain ⟨S, hS⟩ : ∃ S, (2 : Nat) ^ (63 + s) = S := ⟨_, rfl⟩
  obtain ⟨C, hC⟩ : ∃ C, (2 : Nat) ^ c = C := ⟨_, rfl⟩
  have hC4 : (2 : Nat) ^ (c + 2) = 4 * C := by rw [Nat.pow_add, hC]; omega
  rw [hT, hS, hC4] at hkt
  rw [hT] at hchk
  rw [hS, hC] at q1 q2
  rw [hC4] at hR
  rw [hC] at hne
  have hT0 : 0 < T := hT ▸ Nat.two_pow_pos _
  -- 4 C mE S m >= 16 T mE m > nE T m
  have big : m * nE * T < 4 * C * S * (mE * m) := by
    have a1 : 16 * T * (mE * m) ≤ 4 * C * S * (mE * m) := Nat.mul_le_mul_right _ hkt
    have a2 : nE * (m * T) < 16 * mE * (m * T) := Nat.mul_lt_mul_of_pos_right hn16 (Nat.mul_pos hm hT0)
    have a3 : nE * (m * T) = m * nE * T := by simp only [Nat.mul_comm, Nat.mul_left_comm, Nat.mul_assoc]
    have a4 : 16 * mE * (m * T) = 16 * T * (mE * m) := by simp only [Nat.mul_comm, Nat.mul_left_comm, Nat.mul_assoc]
    omega
  have r1 : d * n * S * (nE * T) = D * (2 * mE) * T * (2 * C * m * S) := by
    calc d * n * S * (nE * T) = d * n * nE * (S * T) := by simp only [Nat.mul_comm, Nat.mul_left_comm, Nat.mul_assoc]
      _ = D * (4 * C * (mE * m)) * (S * T) := by rw [hR]
      _ = D * ((2 * 2) * C * (mE * m)) * (S * T) := by rfl
      _ = _ := by simp only [Nat.mul_comm, Nat.mul_left_comm, Nat.mul_assoc]
  have r2 : B * C * m * S * (nE * T) = K * nE * T * (2 * C * m * S) := by
    rw [hBK]
    simp only [Nat.mul_comm, Nat.mul_left_comm, Nat.mul_assoc]
  have r3 : 2 * mE * (2 * C * m * S) = 4 * C * S * (mE * m) := by
    calc 2 * mE * (2 * C * m * S) = (2 * 2) * C * S * (mE * m) := by simp only [Nat.mul_comm, Nat.mul_left_comm, Nat.mul_assoc]
      _ = _ := by rfl
  have hnT : 0 < nE * T := Nat.mul_pos hnE0 hT0
  have r4 : m * (nE * T) = m * nE * T := (Nat.mul_assoc ..).symm
  rcases hchk with hk | hk
  · have := Nat.mul_le_mul_right (2 * C * m * S) hk
    rw [Nat.add_mul, ← r1, ← r2, r3] at this
    have q := Nat.mul_lt_mul_of_pos_right q2 hnT
    rw [Nat.add_mul, r4] at q
    omega
  · have := Nat.mul_le_mul_right (2 * C * m * S) hk
    rw [Nat.add_mul, ← r1, ← r2, r3] at this
    have q := Nat.mul_lt_mul_of_pos_right q1 hnT
    rw [Nat.add_mul, r4] at q
    omega
end Go.Proofs.YtcfknhboicomjaaGreatDoor.Fy
