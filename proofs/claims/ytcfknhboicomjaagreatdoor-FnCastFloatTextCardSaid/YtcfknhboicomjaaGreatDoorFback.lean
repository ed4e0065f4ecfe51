/- A float's shortest text is parsed as that float. -/
import Derived.Test.YtcfknhboicomjaaGreatDoorFin
import Derived.Test.YtcfknhboicomjaaGreatDoorFex
namespace Go.Proofs.YtcfknhboicomjaaGreatDoor.Ft
open Go.RowKit Fy Ieee

theorem ipart_len2 (dg : Nat → Int) (nd : Nat) (dp : Int) (h1 : nd ≤ 100) (h2 : dp ≤ 1000) : (ipart dg nd dp).length ≤ 2000 := by
  have := ip_len false dg nd dp h1 h2
  rw [List.length_append] at this
  omega
theorem fpart_len (dg : Nat → Int) (nd : Nat) (dp : Int) (h1 : nd ≤ 100) (h2 : -1000 ≤ dp) : (fpart dg nd dp).length ≤ 2000 := by
  unfold fpart
  split
  · simp only [List.length_append, List.length_map, List.length_range, List.length_replicate, List.length_cons, List.length_nil]
    omega
  · simp

/-- The parse of M 10^X, between the boundaries. -/
theorem par_num {s : ByteArray} {neg : Bool} {M : Nat} {X : Int} (hr : Reads s M X neg) {mant : Nat} {E : Int} {z : Nat} (hF : Flt mant E z) {p : Int} (hp : p = -lg E ∨ (p = -sk E ∧ -1074 < E)) {D : Nat} (hB : Between mant E p D)
    (hM : 0 < M) (hM64 : M < 2 ^ 64) (hX0 : -345 ≤ X) (hX1 : X ≤ 310) (hbig : 0 < X → 4503599627370496 ≤ M) (hv : M * 10 ^ X.toNat * 10 ^ p.toNat = D * 10 ^ (-p).toNat * 10 ^ (-X).toNat) :
    Par s (sbit neg + rungOf mant E) := by
  have hm53 : mant < 9007199254740992 := by have := hF.m1; simpa using this
  have hnrm : -1074 < E → 4503599627370496 ≤ mant := fun h => by simpa using hF.nrm h
  have hpo := prs_ok hF hp hB hM hM64 (by omega) (by omega) hv
  have hparse := fun w ht => parse_any neg M X mant E hM (by simpa using hM64) (by omega) (by omega) hpo.1 hpo.2.1 hpo.2.2 hm53 hF.e0 hF.e1 hnrm w ht
  rw [word_eq] at hparse
  have hBX := hB.move hv
  by_cases hc : 4503599627370496 ≤ M
  · exact fun w hv ht => atof_parse s M X neg hr hM hX0 hX1 _ 0 (fun w hv => exact_big neg M X hc (by simpa using hM64) w hv) (fun w ht => hparse w ht) w hv ht
  · have hlt : M < 4503599627370496 := by omega
    obtain ⟨x, hx, hx1, hread⟩ := int_read M hM (by omega)
    have hX : X ≤ 0 := by
      apply Int.not_lt.1
      intro h
      exact hc (hbig h)
    by_cases h0 : X = 0
    · subst h0
      have hi := int_ok hF false M hBX
      have hfx : floatOfInt .f64 (M : Int) = double.nearest false M 0 := by
        unfold floatOfInt
        show double.nearest (decide ((M : Int) < 0)) (M : Int).natAbs 0 = _
        rw [Int.natAbs_natCast, decide_eq_false (by omega)]
      have hxe : x = rungOf mant E := by
        rw [← hx, hfx, hi]; rfl
      subst hxe
      intro w hv _
      exact (atof_exact s M 0 neg hr hM hX0 hX1 _ (fun w hv => exact_int neg M _ hx hx1 hlt w hv) w hv).mono fun e w' h => ⟨h.1, h.2 ▸ Below.refl _ _⟩
    · by_cases h22 : -22 ≤ X
      · obtain ⟨k, hk⟩ : ∃ k : Nat, X = -(k : Int) := ⟨(-X).toNat, by omega⟩
        obtain ⟨n, j, hy, hn0, hn1, hnj⟩ := ten_read k (by omega)
        have hBk : Between mant E k M := by
          have := hBX
          rw [hk, Int.neg_neg] at this
          exact this
        have hq := quo_ok hF neg M k n j hM (by omega) hn0 hn1 hnj hBk (sbit neg + x) (tenF k) (hread neg) hy
        rw [word_eq] at hq
        intro w hv _
        refine (atof_exact s M X neg hr hM hX0 hX1 _ (fun w hv => ?_) w hv).mono fun e w' h => ⟨h.1, h.2 ▸ Below.refl _ _⟩
        rw [hk]
        exact exact_quo neg M x _ k hx hx1 hlt (by omega) (by omega) hq w hv
      · exact fun w hv ht => atof_parse s M X neg hr hM hX0 hX1 _ _ (fun w hv => exact_low neg M x X hx hx1 hlt (by omega) w hv) (fun w ht => hparse w ht) w hv ht

theorem lg_bd {E : Int} (h0 : -1074 ≤ E) (h1 : E ≤ 971) : -324 ≤ lg E ∧ lg E ≤ 292 ∧ -324 ≤ sk E ∧ sk E ≤ 292 := by unfold lg sk; omega

theorem nDigits_le {d : Nat} (h0 : 1 ≤ d) (h : d < 10 ^ 17) : Lib.nDigits d ≤ 17 := by
  apply Nat.le_of_not_lt
  intro hc
  have h1 := pow_le_nDigits d h0
  have h2 : (10 : Nat) ^ 17 ≤ 10 ^ (Lib.nDigits d - 1) := Nat.pow_le_pow_right (by omega) (by omega)
  omega

/-- The shortest digits, written out, are parsed as the float. -/
theorem par_text {mant : Nat} {E : Int} {z : Nat} (hF : Flt mant E z) (neg : Bool) (d nd k : Nat) (pe : Int) (hd : (shortF (mant * 2 ^ z) (E - z)).1 = d) (hpe : (shortF (mant * 2 ^ z) (E - z)).2 = pe) (hnd : Lib.nDigits d = nd) (hk1 : 1 ≤ k) (hk2 : k ≤ nd) (hk3 : d % 10 ^ (nd - k) = 0) :
    Par (strOfNums (sgn neg ++ (ipart (dgt d nd) k ((nd : Int) + pe) ++ fpart (dgt d nd) k ((nd : Int) + pe)))) (sbit neg + rungOf mant E) := by
  obtain ⟨p, D, hp, hp0, hp1, hB, hd0, hD17, hpd⟩ := short_ok hF
  rw [hd, hpe] at hpd
  rw [hd] at hd0
  obtain ⟨b1, b2, b3, b4⟩ := lg_bd hF.e0 hF.e1
  have hpb : -292 ≤ p ∧ p ≤ 324 := by rcases hp with rfl | ⟨rfl, _⟩ <;> omega
  obtain ⟨j, hj, hpej, hDj⟩ : ∃ j : Nat, j ≤ 1 ∧ pe = (j : Int) - p ∧ D = d * 10 ^ j := by
    rcases hpd with ⟨h1, h2⟩ | ⟨h1, h2⟩
    · exact ⟨0, by omega, by omega, by rw [h2]; simp⟩
    · exact ⟨1, by omega, by omega, by rw [h2]; omega⟩
  have hd17 : d < 10 ^ 17 := by
    have : d * 1 ≤ d * 10 ^ j := Nat.mul_le_mul_left _ (Nat.pow_pos (by omega))
    omega
  have hn17 : nd ≤ 17 := hnd ▸ nDigits_le hd0 hd17
  have hdn : d < 10 ^ nd := hnd ▸ Lib.lt_pow_nDigits d
  have hlead := lead_digit d nd hd0 hnd
  obtain ⟨q, hq⟩ : ∃ q, d / 10 ^ (nd - k) = q := ⟨_, rfl⟩
  have hdq : d = q * 10 ^ (nd - k) := by
    have := Nat.div_add_mod d (10 ^ (nd - k))
    rw [hk3, hq, Nat.add_zero, Nat.mul_comm] at this
    exact this.symm
  have hq0 : 0 < q := by
    apply Nat.pos_of_ne_zero
    rintro rfl
    omega
  have hqk : q < 10 ^ k := by
    have : q * 10 ^ (nd - k) < 10 ^ k * 10 ^ (nd - k) := by rw [← hdq, ← Nat.pow_add, show k + (nd - k) = nd by omega]; exact hdn
    exact Nat.lt_of_mul_lt_mul_right this
  have hq10 : 10 ^ (k - 1) ≤ q := by
    have h1 := pow_le_nDigits d hd0
    rw [hnd] at h1
    have : 10 ^ (k - 1) * 10 ^ (nd - k) ≤ q * 10 ^ (nd - k) := by rw [← hdq, ← Nat.pow_add, show k - 1 + (nd - k) = nd - 1 by omega]; exact h1
    exact Nat.le_of_mul_le_mul_right this (Nat.pow_pos (by omega))
  obtain ⟨dp, hdp⟩ : ∃ dp : Int, (nd : Int) + pe = dp := ⟨_, rfl⟩
  rw [hdp]
  have hback := text_back d nd k dp hk1 hk2 (by omega) hlead hdn
  rw [hq] at hback
  have hl1 := ipart_len2 (dgt d nd) k dp (by omega) (by omega)
  have hl2 := fpart_len (dgt d nd) k dp (by omega) (by omega)
  obtain ⟨body, hbody⟩ : ∃ body, ipart (dgt d nd) k dp ++ fpart (dgt d nd) k dp = body := ⟨_, rfl⟩
  have hlen : body.length ≤ 4000 := by rw [← hbody, List.length_append]; omega
  rw [hbody] at hback ⊢
  have hr := reads_any neg body hback.front hback.good hback.dig (by omega)
  -- M = q 10^t, X + t = dp - k
  obtain ⟨t, hM, hX, ht, hbig⟩ : ∃ t : Nat, (Rd.start.run body).m = q * 10 ^ t ∧ (Rd.start.run body).point - (Rd.start.run body).nm + t = dp - k ∧ k + t ≤ 19 ∧ (0 < (Rd.start.run body).point - (Rd.start.run body).nm → k + t = 19) := by
    rcases hback.num with ⟨h1, h2, h3⟩ | ⟨h1, t, h2, h3, h4⟩
    · exact ⟨0, by rw [h2]; simp, by omega, by omega, fun h => by omega⟩
    · exact ⟨t, h2, by omega, by omega, fun h => by omega⟩
  have hM0 : 0 < (Rd.start.run body).m := by rw [hM]; exact Nat.mul_pos hq0 (Nat.pow_pos (by omega))
  have hXe : (Rd.start.run body).exp = (Rd.start.run body).point - (Rd.start.run body).nm := by unfold Rd.exp; rw [if_neg (by omega)]
  obtain ⟨M, hMe⟩ : ∃ M, (Rd.start.run body).m = M := ⟨_, rfl⟩
  obtain ⟨X, hXX⟩ : ∃ X, (Rd.start.run body).point - (Rd.start.run body).nm = X := ⟨_, rfl⟩
  rw [hMe, hXe, hXX] at hr
  rw [hMe] at hM hM0
  rw [hXX] at hX hbig
  have hM19 : M < 10 ^ 19 := by
    have h1 : M < 10 ^ k * 10 ^ t := by rw [hM]; exact Nat.mul_lt_mul_of_pos_right hqk (Nat.pow_pos (by omega))
    rw [← Nat.pow_add] at h1
    exact Nat.lt_of_lt_of_le h1 (Nat.pow_le_pow_right (by omega) ht)
  refine par_num hr hF hp hB hM0 (by omega) (by omega) ?_ ?_ ?_
  · by_cases h : 0 < X
    · have := hbig h; omega
    · omega
  · intro h
    have hkt := hbig h
    have h1 : 10 ^ (k - 1) * 10 ^ t ≤ M := by rw [hM]; exact Nat.mul_le_mul_right _ hq10
    rw [← Nat.pow_add, show k - 1 + t = 18 by omega] at h1
    omega
  · rw [hM, hDj, hdq]
    have e1 : q * 10 ^ t * 10 ^ X.toNat * 10 ^ p.toNat = q * 10 ^ (t + X.toNat + p.toNat) := by
      rw [Nat.pow_add, Nat.pow_add]; simp only [Nat.mul_assoc]
    have e2 : q * 10 ^ (nd - k) * 10 ^ j * 10 ^ (-p).toNat * 10 ^ (-X).toNat = q * 10 ^ (nd - k + j + (-p).toNat + (-X).toNat) := by
      rw [Nat.pow_add, Nat.pow_add, Nat.pow_add]; simp only [Nat.mul_assoc]
    rw [e1, e2]
    congr 2
    omega
end Go.Proofs.YtcfknhboicomjaaGreatDoor.Ft
