/- Plain: strconv's parseFloat64, on numbers: a decimal between a float's boundaries is that float. -/
import Derived.Test.YtcfknhboicomjaaGreatDoorPrs3
namespace Go.Proofs.YtcfknhboicomjaaGreatDoor.Fy

theorem sub_e {E e : Int} {c : Nat} (hE : E = -1074) (cle : E + e = 0 ∨ (E + e = 1 ∧ -1074 < E)) (hc : (c : Int) = E + e) : e = 1074 ∧ c = 0 := by omega
theorem prs_ok {mant : Nat} {E : Int} {z : Nat} (h : Flt mant E z) {p : Int} (hp : p = -lg E ∨ (p = -sk E ∧ -1074 < E)) {D : Nat} (hB : Between mant E p D) {d : Nat} {Q : Int} (hd0 : 0 < d) (hd : d < 2 ^ 64)
    (hQ0 : -348 ≤ Q) (hQ1 : Q ≤ 347) (hv : d * 10 ^ Q.toNat * 10 ^ p.toNat = D * 10 ^ (-p).toNat * 10 ^ (-Q).toNat) : 8 ≤ prS d Q ∧ prS d Q ≤ 62 ∧ prs d Q = (mant, E) := by
  obtain ⟨Ep, hEp⟩ : ∃ x, (2 : Nat) ^ E.toNat = x := ⟨_, rfl⟩
  obtain ⟨Em, hEm⟩ : ∃ x, (2 : Nat) ^ (-E).toNat = x := ⟨_, rfl⟩
  obtain ⟨Pp, hPp⟩ : ∃ x, (10 : Nat) ^ p.toNat = x := ⟨_, rfl⟩
  obtain ⟨Pm, hPm⟩ : ∃ x, (10 : Nat) ^ (-p).toNat = x := ⟨_, rfl⟩
  obtain ⟨Qp, hQp⟩ : ∃ x, (10 : Nat) ^ Q.toNat = x := ⟨_, rfl⟩
  obtain ⟨Qm, hQm⟩ : ∃ x, (10 : Nat) ^ (-Q).toNat = x := ⟨_, rfl⟩
  have p10 : ∀ k : Nat, 0 < (10 : Nat) ^ k := fun k => Nat.pow_pos (by omega)
  have p2 : ∀ k : Nat, 0 < (2 : Nat) ^ k := fun k => Nat.pow_pos (by omega)
  have Ep0 : 0 < Ep := hEp ▸ p2 _
  have Em0 : 0 < Em := hEm ▸ p2 _
  have Pp0 : 0 < Pp := hPp ▸ p10 _
  have Qp0 : 0 < Qp := hQp ▸ p10 _
  have Qm0 : 0 < Qm := hQm ▸ p10 _
  rw [hQp, hPp, hPm, hQm] at hv
  have hnE : up E p = Ep * Pp := by unfold up; rw [hEp, hPp]
  have hmE : up (-E) (-p) = Em * Pm := by unfold up; rw [hEm, hPm]
  obtain ⟨f1, f2, f3, f4⟩ := lo4_facts (E := E) h.m0
  have hm1 := h.m1
  have hm0 := h.m0
  -- the boundaries in the words of d, Q
  have F1 : lo4 mant E * (Ep * Qm) ≤ 4 * d * (Em * Qp) := (move Pp0 Qm0 hv).1 (by rw [← hnE, ← hmE]; exact hB.1)
  have F2 : 4 * d * (Em * Qp) ≤ (4 * mant + 2) * (Ep * Qm) := (move Pp0 Qm0 hv).2.1 (by rw [← hnE, ← hmE]; exact hB.2.1)
  have F3 : mant % 2 = 1 → lo4 mant E * (Ep * Qm) < 4 * d * (Em * Qp) ∧ 4 * d * (Em * Qp) < (4 * mant + 2) * (Ep * Qm) := fun ho =>
    ⟨(move Pp0 Qm0 hv).2.2.1 (by rw [← hnE, ← hmE]; exact (hB.2.2 ho).1), (move Pp0 Qm0 hv).2.2.2 (by rw [← hnE, ← hmE]; exact (hB.2.2 ho).2)⟩
  -- d's bits
  obtain ⟨b, hb⟩ : ∃ b, prB d = b := ⟨_, rfl⟩
  have hbl : b = d.log2 + 1 := hb.symm
  have d1 : 2 ^ (b - 1) ≤ d := by rw [hbl, Nat.add_sub_cancel]; exact Nat.log2_self_le (by omega)
  have d2 : d < 2 ^ b := by rw [hbl]; exact Nat.lt_log2_self
  have b64 : b ≤ 64 := by
    apply Nat.le_of_not_lt
    intro hc
    have : (2 : Nat) ^ 64 ≤ 2 ^ (b - 1) := Nat.pow_le_pow_right (by omega) (by omega)
    omega
  -- the power's bits
  obtain ⟨lp, hlp⟩ : ∃ lp, l2 Q = lp := ⟨_, rfl⟩
  obtain ⟨lP, hlP⟩ : ∃ x, (2 : Nat) ^ lp.toNat = x := ⟨_, rfl⟩
  obtain ⟨lM, hlM⟩ : ∃ x, (2 : Nat) ^ (-lp).toNat = x := ⟨_, rfl⟩
  have lP0 : 0 < lP := hlP ▸ p2 _
  have lM0 : 0 < lM := hlM ▸ p2 _
  have hr := row_ok Q hQ0 hQ1
  simp only [rowOk, Bool.and_eq_true, decide_eq_true_eq] at hr
  obtain ⟨⟨_, r6⟩, r7⟩ := hr
  have R6 : lP * Qm ≤ Qp * lM := by
    rw [hlp] at r6
    unfold up at r6
    rw [hlP, hlM, hQp, hQm] at r6
    simpa using r6
  have R7 : Qp * lM * (2 ^ 20 + 1) ≤ lP * Qm * 2 ^ 21 := by
    rw [hlp] at r7
    unfold up at r7
    rw [hlP, hlM, hQp, hQm] at r7
    simpa using r7
  -- e
  obtain ⟨e, he⟩ : ∃ e, prE d Q = e := ⟨_, rfl⟩
  have hed : e = min 1074 (53 - (b : Int) - lp) := by rw [← he, ← hb, ← hlp]; rfl
  obtain ⟨s, hs⟩ : ∃ s, prS d Q = s := ⟨_, rfl⟩
  have hsd : s = -(e - (64 - (b : Int)) + lp + 3) := by rw [← hs, ← he, ← hb, ← hlp]; rfl
  have b1 : 1 ≤ b := by omega
  -- c >= 0
  have cge : 0 ≤ E + e := by
    have a1 : 4 * d * (Em * lP) < 2 ^ 55 * (Ep * lM) := by
      have u1 := Nat.mul_le_mul_right lM F2
      have u2 : 4 * d * Em * (lP * Qm) ≤ 4 * d * Em * (Qp * lM) := Nat.mul_le_mul_left _ R6
      have u3 : 4 * d * (Em * lP) * Qm ≤ (4 * mant + 2) * (Ep * lM) * Qm := by
        calc 4 * d * (Em * lP) * Qm = 4 * d * Em * (lP * Qm) := by simp only [Nat.mul_comm, Nat.mul_left_comm, Nat.mul_assoc]
          _ ≤ 4 * d * Em * (Qp * lM) := u2
          _ = 4 * d * (Em * Qp) * lM := by simp only [Nat.mul_comm, Nat.mul_left_comm, Nat.mul_assoc]
          _ ≤ (4 * mant + 2) * (Ep * Qm) * lM := u1
          _ = _ := by simp only [Nat.mul_comm, Nat.mul_left_comm, Nat.mul_assoc]
      have u4 := Nat.le_of_mul_le_mul_right u3 Qm0
      exact Nat.lt_of_le_of_lt u4 (Nat.mul_lt_mul_of_pos_right (by omega) (Nat.mul_pos Ep0 lM0))
    have a2 : 2 ^ (b + 1) * (Em * lP) ≤ 4 * d * (Em * lP) := by
      apply Nat.mul_le_mul_right
      have : (2 : Nat) ^ (b + 1) = 4 * 2 ^ (b - 1) := by
        rw [show (4 : Nat) = 2 ^ 2 by rfl, ← Nat.pow_add]; congr 1; omega
      omega
    have a3 := Nat.lt_of_le_of_lt a2 a1
    rw [← hEm, ← hlP, ← hEp, ← hlM, ← Nat.pow_add, ← Nat.pow_add, ← Nat.pow_add, ← Nat.pow_add] at a3
    have a4 := two_lt a3
    have := h.e0
    omega
  have lower : ∀ (L k : Nat), 2 ^ k ≤ L * (2 ^ 20 + 1) → L ≤ lo4 mant E → (k : Int) + E - lp < b + 23 := fun L k hk hL => by
    have u1 := Nat.mul_le_mul_right (lM * (2 ^ 20 + 1)) F1
    have u2 : 4 * d * Em * (Qp * lM * (2 ^ 20 + 1)) ≤ 4 * d * Em * (lP * Qm * 2 ^ 21) := Nat.mul_le_mul_left _ R7
    have u3 : 2 ^ k * (Ep * lM) * Qm ≤ 4 * d * (2 ^ 21 * (Em * lP)) * Qm := by
      calc 2 ^ k * (Ep * lM) * Qm ≤ L * (2 ^ 20 + 1) * (Ep * lM) * Qm := Nat.mul_le_mul_right _ (Nat.mul_le_mul_right _ hk)
        _ ≤ lo4 mant E * (2 ^ 20 + 1) * (Ep * lM) * Qm := Nat.mul_le_mul_right _ (Nat.mul_le_mul_right _ (Nat.mul_le_mul_right _ hL))
        _ = lo4 mant E * (Ep * Qm) * (lM * (2 ^ 20 + 1)) := by simp only [Nat.mul_comm, Nat.mul_left_comm, Nat.mul_assoc]
        _ ≤ 4 * d * (Em * Qp) * (lM * (2 ^ 20 + 1)) := u1
        _ = 4 * d * Em * (Qp * lM * (2 ^ 20 + 1)) := by simp only [Nat.mul_comm, Nat.mul_left_comm, Nat.mul_assoc]
        _ ≤ 4 * d * Em * (lP * Qm * 2 ^ 21) := u2
        _ = _ := by simp only [Nat.mul_comm, Nat.mul_left_comm, Nat.mul_assoc]
    have u4 := Nat.le_of_mul_le_mul_right u3 Qm0
    have u5 : 4 * d * (2 ^ 21 * (Em * lP)) < 2 ^ (b + 23) * (Em * lP) := by
      have : 4 * d * 2 ^ 21 < 2 ^ (b + 23) := by
        have : (2 : Nat) ^ (b + 23) = 2 ^ b * 2 ^ 23 := Nat.pow_add ..
        omega
      rw [← Nat.mul_assoc (4 * d)]
      exact Nat.mul_lt_mul_of_pos_right this (Nat.mul_pos Em0 lP0)
    have a3 := Nat.lt_of_le_of_lt u4 u5
    rw [← hEm, ← hlP, ← hEp, ← hlM, ← Nat.pow_add, ← Nat.pow_add, ← Nat.pow_add, ← Nat.pow_add] at a3
    have := two_lt a3
    omega
  have low1 := lower 2 21 (by omega) f2
  have s0 : 8 ≤ s := by omega
  have s62 : s ≤ 62 := by have := h.e0; omega
  have cle : E + e = 0 ∨ (E + e = 1 ∧ -1074 < E) := by
    by_cases hE : -1074 < E
    · have := lower (2 ^ 54 - 1) 74 (by decide) (f3 (h.nrm hE) hE)
      omega
    · have := h.e0
      omega
  obtain ⟨c, hc⟩ : ∃ c : Nat, (c : Int) = E + e := ⟨(E + e).toNat, by omega⟩
  -- n/m
  obtain ⟨n, hn⟩ : ∃ n, up (e + 2) Q = n := ⟨_, rfl⟩
  obtain ⟨m, hm⟩ : ∃ m, up (-(e + 2)) (-Q) = m := ⟨_, rfl⟩
  have hmp : 0 < m := hm ▸ up_pos _ _
  have hnp : 0 < n := hn ▸ up_pos _ _
  have hNM : Ep * Qm * n = 2 ^ (c + 2) * (Em * Qp * m) := by
    have := up_mul E (-Q) (e + 2) Q
    have e1 : up E (-Q) = Ep * Qm := by unfold up; rw [hEp, hQm]
    have e2 : up (-E) (- -Q) = Em * Qp := by rw [Int.neg_neg]; unfold up; rw [hEm, hQp]
    have e3 : up (-(E + (e + 2))) (-(-Q + Q)) = 1 := by
      unfold up
      rw [show (-(E + (e + 2))).toNat = 0 by omega, show (-(-Q + Q)).toNat = 0 by omega]
    have e4 : up (E + (e + 2)) (-Q + Q) = 2 ^ (c + 2) := by
      unfold up
      rw [show (E + (e + 2)).toNat = c + 2 by omega, show (-Q + Q).toNat = 0 by omega, Nat.pow_zero, Nat.mul_one]
    rw [e1, e2, e3, e4, hn, hm, Nat.mul_one] at this
    exact this
  have ctx : Ctx mant E d Q c n m (Ep * Qm) (Em * Qp) := ⟨hmp, Nat.mul_pos Em0 Qp0, hNM, F1, F2, F3⟩
  have g1 := (ctx.conv (lo4 mant E) hnp).1 F1
  have g2 := (ctx.conv (4 * mant + 2) hnp).2.1 F2
  have g3 : mant % 2 = 1 → lo4 mant E * 2 ^ c * m < d * n ∧ d * n < (4 * mant + 2) * 2 ^ c * m := fun ho =>
    ⟨(ctx.conv (lo4 mant E) hnp).2.2.1 (F3 ho).1, (ctx.conv (4 * mant + 2) hnp).2.2.2 (F3 ho).2⟩
  -- uscale
  obtain ⟨sn, hsn⟩ : ∃ sn : Nat, (sn : Int) = s := ⟨s.toNat, by omega⟩
  have hx : d * 2 ^ (64 - b) < 2 ^ 64 := by
    have : d * 2 ^ (64 - b) < 2 ^ b * 2 ^ (64 - b) := Nat.mul_lt_mul_of_pos_right d2 (p2 _)
    rw [← Nat.pow_add, show b + (64 - b) = 64 by omega] at this
    exact this
  have hu := usc_at_near (e + 2) Q (66 - b) d sn (by omega) hQ0 hQ1 (by rw [hlp]; omega) (by rw [show 66 - b - 2 = 64 - b by omega]; exact hx)
  rw [show 66 - b - 2 = 64 - b by omega, hn, hm] at hu
  have hU : prU d Q = usc (d * 2 ^ (64 - b)) (rowOf Q).1 (rowOf Q).2 sn := by
    unfold prU
    rw [hb, hs, ← hsn, Int.toNat_natCast]
  rw [← hU] at hu
  -- the decimal in the words of the certificate
  have hR : d * n * (Ep * Pp) = D * (2 ^ (c + 2) * (Em * Pm * m)) := by
    apply Nat.eq_of_mul_eq_mul_right Qm0
    calc d * n * (Ep * Pp) * Qm = d * Pp * (Ep * Qm * n) := by simp only [Nat.mul_comm, Nat.mul_left_comm, Nat.mul_assoc]
      _ = d * Pp * (2 ^ (c + 2) * (Em * Qp * m)) := by rw [hNM]
      _ = d * Qp * Pp * (2 ^ (c + 2) * (Em * m)) := by simp only [Nat.mul_comm, Nat.mul_left_comm, Nat.mul_assoc]
      _ = D * Pm * Qm * (2 ^ (c + 2) * (Em * m)) := by rw [hv]
      _ = _ := by simp only [Nat.mul_comm, Nat.mul_left_comm, Nat.mul_assoc]
  have hsub : ¬ 2 ^ 52 ≤ mant → ∀ B, B = 4 * mant - 2 ∨ B = 4 * mant + 2 → 2 ^ 61 ≤ B * 2 ^ sn := fun hnm B hBB => by
    have hE : E = -1074 := by
      apply Decidable.byContradiction
      intro hc'
      exact hnm (h.nrm (by have := h.e0; omega))
    obtain ⟨e1074, c0⟩ := sub_e hE cle hc
    subst c0
    rw [Nat.pow_zero, Nat.mul_one] at g2
    -- 2^(62-s) m <= d n
    have v1 : 2 ^ (62 - sn) * m ≤ d * n := by
      have hmm : m = Qm := by rw [← hm]; unfold up; rw [show (-(e + 2)).toNat = 0 by omega, hQm]; simp
      have hnn : n = 2 ^ 1076 * Qp := by rw [← hn]; unfold up; rw [show (e + 2).toNat = 1076 by omega, hQp]
      apply Nat.le_of_mul_le_mul_right _ lM0
      rw [hmm, hnn]
      have w1 : 2 ^ (62 - sn) * lM = 2 ^ (b + 1075) * lP := by
        rw [← hlM, ← hlP, ← Nat.pow_add, ← Nat.pow_add]
        congr 1
        omega
      have w2 : 2 ^ (b + 1075) ≤ d * 2 ^ 1076 := by
        have hpw : ∀ N : Nat, b + 1075 = (b - 1) + N → (2 : Nat) ^ (b + 1075) = 2 ^ (b - 1) * 2 ^ N := fun N hN => by rw [hN, Nat.pow_add]
        have := hpw 1076 (by omega)
        rw [this]
        exact Nat.mul_le_mul_right _ d1
      obtain ⟨X, hX⟩ : ∃ X, (2 : Nat) ^ 1076 = X := ⟨_, rfl⟩
      rw [hX] at w2 ⊢
      calc 2 ^ (62 - sn) * Qm * lM = 2 ^ (62 - sn) * lM * Qm := Nat.mul_right_comm ..
        _ = 2 ^ (b + 1075) * lP * Qm := by rw [w1]
        _ ≤ d * X * lP * Qm := Nat.mul_le_mul_right _ (Nat.mul_le_mul_right _ w2)
        _ = d * X * (lP * Qm) := Nat.mul_assoc ..
        _ ≤ d * X * (Qp * lM) := Nat.mul_le_mul_left _ R6
        _ = _ := by simp only [Nat.mul_comm, Nat.mul_left_comm, Nat.mul_assoc]
    have v2 : 2 ^ (62 - sn) ≤ 4 * mant + 2 := Nat.le_of_mul_le_mul_right (Nat.le_trans v1 g2) hmp
    have v3 : 2 ^ (61 - sn) ≤ B ∨ 61 < sn := by
      by_cases hbig : sn ≤ 59
      · left
        have e1 : (2 : Nat) ^ (62 - sn) = 2 * 2 ^ (61 - sn) := by rw [show 62 - sn = (61 - sn) + 1 by omega, Nat.pow_succ, Nat.mul_comm]
        have e2 : (2 : Nat) ^ 2 ≤ 2 ^ (61 - sn) := Nat.pow_le_pow_right (by omega) (by omega)
        omega
      · by_cases h60 : sn = 60
        · left; subst h60; omega
        · by_cases h61 : sn = 61
          · left; subst h61; omega
          · right; omega
    rcases v3 with v3 | v3
    · have := Nat.mul_le_mul_right (2 ^ sn) v3
      by_cases hle : sn ≤ 61
      · rw [← Nat.pow_add, show 61 - sn + sn = 61 by omega] at this
        exact this
      · have h2 : 1 * 2 ^ 62 ≤ B * 2 ^ sn := Nat.mul_le_mul (by omega) (Nat.pow_le_pow_right (by omega) (by omega))
        omega
    · have h2 : 1 * 2 ^ 62 ≤ B * 2 ^ sn := Nat.mul_le_mul (by omega) (Nat.pow_le_pow_right (by omega) (by omega))
      omega
  have hend := prs_end (E := E) (d := d) (c := c) (n := n) (m := m) (u := prU d Q) (e := 0) (s := sn) hm1 hm0
    (by rcases cle with hc' | ⟨hc', hE⟩
        · left; omega
        · right; exact ⟨by omega, h.nrm hE⟩)
    hmp g1 g2 g3 f1 (fun hc1 => by
      rcases cle with hc' | ⟨hc', hE⟩
      · omega
      · exact f3 (h.nrm hE) hE) f4
    (by rcases hu with hu | ⟨q, hq, hne, q1, q2⟩
        · exact .inl hu
        · exact .inr ⟨q, hq, hne, q1, q2⟩)
    (fun ho B hBB hne q1 q2 => no_near h hp ho hBB hnE hmE hmp hR (fun _ => by omega) (fun hnm => hsub hnm B hBB) hne q1 q2)
  refine ⟨hs ▸ s0, hs ▸ s62, ?_⟩
  unfold prs
  rw [he]
  rcases cle with hc' | ⟨hc', hE⟩
  · obtain ⟨k1, k2⟩ := hend.1 (by omega)
    rw [if_neg k1, k2]
    congr 1
    omega
  · obtain ⟨k1, k2⟩ := hend.2 (by omega)
    rw [if_pos k1, k2]
    congr 1
    omega
end Go.Proofs.YtcfknhboicomjaaGreatDoor.Fy
