/- Plain: IEEE rounding: a number between a float's boundaries is written as that float: a whole number, a quotient by a power of ten. -/
import Derived.Laws.FloatArith
import Derived.Test.YtcfknhboicomjaaGreatDoorPrs4
namespace Go.Proofs.YtcfknhboicomjaaGreatDoor.Fy
open Ieee

theorem cut_near {neg : Bool} {n t K : Nat} (ht : t ≤ n.log2 + 2) (h1 : 4 * (K * 2 ^ t) ≤ 4 * n + 2 * 2 ^ t) (h2 : 4 * n ≤ 4 * (K * 2 ^ t) + 2 * 2 ^ t) (h3 : K % 2 = 1 → 4 * (K * 2 ^ t) < 4 * n + 2 * 2 ^ t ∧ 4 * n < 4 * (K * 2 ^ t) + 2 * 2 ^ t) : Toward.even.cut neg n t = K := by
  unfold Toward.cut
  rw [Nat.min_eq_left ht]
  simp only [Nat.one_shiftLeft]
  obtain ⟨g, hg⟩ : ∃ g, 2 ^ t = g := ⟨_, rfl⟩
  have hg0 : 0 < g := hg ▸ Nat.pow_pos (by omega)
  rw [hg] at h1 h2 h3 ⊢
  have hd := Nat.div_add_mod n g
  have hr := Nat.mod_lt n hg0
  obtain ⟨q, hq⟩ : ∃ q, n / g = q := ⟨_, rfl⟩
  obtain ⟨r, hr'⟩ : ∃ r, n % g = r := ⟨_, rfl⟩
  rw [hq, hr', Nat.mul_comm] at hd
  rw [hr'] at hr
  rw [hq, hr']
  have u1 : K < q + 2 := by
    apply Nat.lt_of_mul_lt_mul_right (a := g)
    rw [Nat.add_mul]
    omega
  have u2 : q < K + 1 := by
    apply Nat.lt_of_mul_lt_mul_right (a := g)
    rw [Nat.add_mul]
    omega
  have : q = K ∨ K = q + 1 := by omega
  rcases this with rfl | rfl
  · have hle : 2 * r ≤ g := by omega
    have hne : q % 2 = 1 → g ≠ 2 * r := fun ho => by have := h3 ho; omega
    have e1 : decide (g < 2 * r) = false := decide_eq_false (by omega)
    have e2 : (g == 2 * r && q % 2 == 1) = false := by
      by_cases ho : q % 2 = 1
      · have := hne ho
        simp [this]
      · simp [ho]
    rw [e1, e2]
    rfl
  · rw [Nat.add_mul, Nat.one_mul] at h1 h2 h3
    have hle : g ≤ 2 * r := by omega
    have hne : (q + 1) % 2 = 1 → g ≠ 2 * r := fun ho => by have := h3 ho; omega
    have e : (decide (g < 2 * r) || (g == 2 * r && q % 2 == 1)) = true := by
      by_cases hlt : g < 2 * r
      · simp [hlt]
      · have he : g = 2 * r := by omega
        have : q % 2 = 1 := by
          apply Decidable.byContradiction
          intro hc
          exact hne (by omega) he
        simp [he, this]
    rw [e]
    rfl

theorem log2_shift (N k : Nat) (h : N ≠ 0) : (N * 2 ^ k).log2 = N.log2 + k := by
  have h2 : N * 2 ^ k ≠ 0 := Nat.mul_ne_zero h (Nat.ne_of_gt (Nat.pow_pos (by omega)))
  rw [Nat.log2_eq_iff h2]
  have h3 := (Nat.log2_eq_iff h).1 rfl
  constructor
  · rw [Nat.pow_add]; exact Nat.mul_le_mul_right _ h3.1
  · rw [show N.log2 + k + 1 = (N.log2 + 1) + k by omega, Nat.pow_add]; exact Nat.mul_lt_mul_of_pos_right h3.2 (Nat.pow_pos (by omega))

theorem lo4_ge {mant : Nat} {E : Int} (h0 : 0 < mant) : 2 ≤ lo4 mant E ∧ 4 * mant ≤ lo4 mant E + 2 ∧ lo4 mant E + 1 ≤ 4 * mant ∧ (mant ≠ 2 ^ 52 → lo4 mant E = 4 * mant - 2) ∧ (mant = 2 ^ 52 → -1074 < E → lo4 mant E = 4 * mant - 1) := by
  unfold lo4
  split
  · rename_i h
    exact ⟨by omega, by omega, by omega, fun g => absurd h.1 g, fun _ _ => rfl⟩
  · rename_i h
    exact ⟨by omega, by omega, by omega, fun _ => rfl, fun a b => absurd ⟨a, b⟩ h⟩

/-- The rung of mant 2^E. -/
def rungOf (mant : Nat) (E : Int) : Nat := (E + 1074).toNat * 4503599627370496 + mant

theorem nearest_ok {mant : Nat} {E : Int} (hE0 : -1074 ≤ E) (hE1 : E ≤ 971) (hm0 : 0 < mant) (hm1 : mant < 2 ^ 53) (hnrm : -1074 < E → 2 ^ 52 ≤ mant) (neg : Bool) (mag : Nat) (place : Int)
    (h1 : lo4 mant E * 2 ^ (E - place).toNat ≤ 4 * (mag * 2 ^ (place - E).toNat)) (h2 : 4 * (mag * 2 ^ (place - E).toNat) ≤ (4 * mant + 2) * 2 ^ (E - place).toNat)
    (h3 : mant % 2 = 1 → lo4 mant E * 2 ^ (E - place).toNat < 4 * (mag * 2 ^ (place - E).toNat) ∧ 4 * (mag * 2 ^ (place - E).toNat) < (4 * mant + 2) * 2 ^ (E - place).toNat) :
    double.nearest neg mag place = double.word neg (rungOf mant E) := by
  have hb : double.binade = 4503599627370496 := rfl
  have hi : double.infRung = 9218868437227405312 := rfl
  have hl : double.leastPlace = -1074 := rfl
  have hf : (double.fractionBits : Int) = 52 := rfl
  obtain ⟨i, hii⟩ : ∃ i, (place - E).toNat = i := ⟨_, rfl⟩
  obtain ⟨t, htt⟩ : ∃ t, (E - place).toNat = t := ⟨_, rfl⟩
  rw [hii, htt] at h1 h2 h3
  obtain ⟨n, hn⟩ : ∃ n, mag * 2 ^ i = n := ⟨_, rfl⟩
  rw [hn] at h1 h2 h3
  obtain ⟨g, hg⟩ : ∃ g, 2 ^ t = g := ⟨_, rfl⟩
  have hg0 : 0 < g := hg ▸ Nat.pow_pos (by omega)
  have pw : ∀ k : Nat, (2 : Nat) ^ (k + t) = 2 ^ k * g := fun k => by rw [Nat.pow_add, hg]
  rw [hg] at h1 h2 h3
  obtain ⟨l1, l2, l3, l4, l5⟩ := lo4_ge (E := E) hm0
  obtain ⟨X, hX⟩ : ∃ X, lo4 mant E = X := ⟨_, rfl⟩
  rw [hX] at h1 h3 l1 l2 l3 l4 l5
  have hXg : 2 * g ≤ X * g := Nat.mul_le_mul_right g l1
  have hn0 : n ≠ 0 := by omega
  have hmag : mag ≠ 0 := by
    rintro rfl
    rw [Nat.zero_mul] at hn
    omega
  have hlog : n.log2 = mag.log2 + i := hn ▸ log2_shift mag i hmag
  have hub : n.log2 < 53 + t := by
    rw [Nat.log2_lt hn0, pw]
    have : (4 * mant + 2) * g ≤ (2 ^ 55 - 2) * g := Nat.mul_le_mul_right g (by omega)
    omega
  have hlt := (Nat.log2_eq_iff hn0).1 rfl
  have hmt : (4 * mant + 2) * g = 4 * (mant * g) + 2 * g := by rw [Nat.add_mul, Nat.mul_assoc]
  have hml : 4 * (mant * g) ≤ X * g + 2 * g := by
    have := Nat.mul_le_mul_right g l2
    rw [Nat.add_mul, Nat.mul_assoc] at this
    exact this
  unfold Format.nearest
  rw [if_neg hmag, hl, hf, hb, hi]
  by_cases hc : E = -1074 ∨ n.log2 = t + 52
  · have el : max (place + (mag.log2 : Int) - 52) (-1074) = E := by omega
    simp only [el]
    rw [hii, htt, Nat.shiftLeft_eq, hn]
    rw [cut_near (K := mant) (t := t) (n := n)]
    · unfold rungOf
      rw [Nat.min_eq_left (by omega)]
      congr 2
    · have : 2 ^ t < 2 ^ (n.log2 + 2) := by
        rw [hg]
        have : 2 ^ (n.log2 + 2) = 2 * 2 ^ (n.log2 + 1) := by rw [show n.log2 + 2 = (n.log2 + 1) + 1 by omega, Nat.pow_succ, Nat.mul_comm]
        omega
      have := (Nat.pow_lt_pow_iff_right (by omega)).1 this
      omega
    · rw [hg]; omega
    · rw [hg]; omega
    · intro ho
      have hX2 : X = 4 * mant - 2 := l4 (by intro hc; rw [hc] at ho; omega)
      have : X + 2 = 4 * mant := by omega
      have e : X * g + 2 * g = 4 * (mant * g) := by rw [← Nat.add_mul, this, Nat.mul_assoc]
      have := h3 ho
      rw [hg]
      omega
  · have hE : -1074 < E := by omega
    have hmn := hnrm hE
    have hlow : n.log2 < t + 52 := by omega
    have hnl : n < 2 ^ 52 * g := by
      rw [← pw]
      exact (Nat.log2_lt hn0).1 (by omega)
    have hmeq : mant = 2 ^ 52 := by
      apply Decidable.byContradiction
      intro hne
      have hX2 := l4 hne
      have : (2 ^ 54 + 2) * g ≤ X * g := Nat.mul_le_mul_right g (by omega)
      omega
    have hX1 := l5 hmeq hE
    have hXg2 : (2 ^ 54 - 1) * g ≤ X * g := Nat.mul_le_mul_right g (by omega)
    have h51 : n.log2 = 51 + t := by
      have : 51 + t ≤ n.log2 := by
        apply (Nat.le_log2 hn0).2
        rw [pw]
        omega
      omega
    have el : max (place + (mag.log2 : Int) - 52) (-1074) = E - 1 := by omega
    simp only [el]
    have key : Toward.even.cut neg (mag <<< (place - (E - 1)).toNat) ((E - 1) - place).toNat = 2 ^ 53 := by
      rw [Nat.shiftLeft_eq]
      rcases Nat.eq_zero_or_pos t with h0 | h0
      · exfalso
        subst h0
        rw [Nat.pow_zero] at hg
        omega
      · have hi0 : i = 0 := by omega
        subst hi0
        rw [Nat.pow_zero, Nat.mul_one] at hn
        subst hn
        rw [show (place - (E - 1)).toNat = 0 by omega, Nat.pow_zero, Nat.mul_one, show ((E - 1) - place).toNat = t - 1 by omega]
        have hg' : g = 2 * 2 ^ (t - 1) := by rw [← hg, ← Nat.pow_succ']; congr 1; omega
        obtain ⟨g', hgg⟩ : ∃ g', 2 ^ (t - 1) = g' := ⟨_, rfl⟩
        rw [hgg] at hg'
        refine cut_near (by omega) ?_ ?_ (fun ho => by omega)
        · rw [hgg]; omega
        · rw [hgg]; omega
    rw [key]
    unfold rungOf
    have er : (E - 1 - -1074).toNat * 4503599627370496 + 2 ^ 53 = (E + 1074).toNat * 4503599627370496 + mant := by omega
    rw [er, Nat.min_eq_left (by omega)]

theorem Between.move {mant : Nat} {E p : Int} {D d : Nat} {Q : Int} (h : Between mant E p D) (hv : d * 10 ^ Q.toNat * 10 ^ p.toNat = D * 10 ^ (-p).toNat * 10 ^ (-Q).toNat) : Between mant E (-Q) d := by
  unfold Between up at h ⊢
  rw [Int.neg_neg]
  obtain ⟨Pp, hPp⟩ : ∃ x, (10 : Nat) ^ p.toNat = x := ⟨_, rfl⟩
  obtain ⟨Pm, hPm⟩ : ∃ x, (10 : Nat) ^ (-p).toNat = x := ⟨_, rfl⟩
  obtain ⟨Qp, hQp⟩ : ∃ x, (10 : Nat) ^ Q.toNat = x := ⟨_, rfl⟩
  obtain ⟨Qm, hQm⟩ : ∃ x, (10 : Nat) ^ (-Q).toNat = x := ⟨_, rfl⟩
  obtain ⟨Ep, hEp⟩ : ∃ x, (2 : Nat) ^ E.toNat = x := ⟨_, rfl⟩
  obtain ⟨Em, hEm⟩ : ∃ x, (2 : Nat) ^ (-E).toNat = x := ⟨_, rfl⟩
  have p10 : ∀ k : Nat, 0 < (10 : Nat) ^ k := fun k => Nat.pow_pos (by omega)
  have Pp0 : 0 < Pp := hPp ▸ p10 _
  have Qm0 : 0 < Qm := hQm ▸ p10 _
  rw [hPp, hPm, hEp, hEm] at h
  rw [hPp, hPm, hQp, hQm] at hv
  rw [hQp, hQm, hEp, hEm]
  have e1 : ∀ L : Nat, L * (Ep * Qm) * Pp = L * (Ep * Pp) * Qm := fun L => by simp only [Nat.mul_comm, Nat.mul_left_comm, Nat.mul_assoc]
  have e2 : 4 * d * (Em * Qp) * Pp = 4 * D * (Em * Pm) * Qm := by
    have a1 : 4 * d * (Em * Qp) * Pp = 4 * Em * (d * Qp * Pp) := by simp only [Nat.mul_comm, Nat.mul_left_comm, Nat.mul_assoc]
    have a2 : 4 * D * (Em * Pm) * Qm = 4 * Em * (D * Pm * Qm) := by simp only [Nat.mul_comm, Nat.mul_left_comm, Nat.mul_assoc]
    rw [a1, a2, hv]
  refine ⟨?_, ?_, fun ho => ⟨?_, ?_⟩⟩
  · apply Nat.le_of_mul_le_mul_right _ Pp0
    rw [e1, e2]
    exact Nat.mul_le_mul_right _ h.1
  · apply Nat.le_of_mul_le_mul_right _ Pp0
    rw [e1, e2]
    exact Nat.mul_le_mul_right _ h.2.1
  · apply Nat.lt_of_mul_lt_mul_right (a := Pp)
    rw [e1, e2]
    exact Nat.mul_lt_mul_of_pos_right (h.2.2 ho).1 Qm0
  · apply Nat.lt_of_mul_lt_mul_right (a := Pp)
    rw [e1, e2]
    exact Nat.mul_lt_mul_of_pos_right (h.2.2 ho).2 Qm0

/-- A whole number between the boundaries is the float. -/
theorem int_ok {mant : Nat} {E : Int} {z : Nat} (h : Flt mant E z) (neg : Bool) (M : Nat) (hB : Between mant E 0 M) : double.nearest neg M 0 = double.word neg (rungOf mant E) := by
  unfold Between up at hB
  simp only [Int.neg_zero, Int.toNat_zero, Nat.pow_zero, Nat.mul_one] at hB
  refine nearest_ok h.e0 h.e1 h.m0 h.m1 h.nrm neg M 0 ?_ ?_ ?_
  · rw [Int.sub_zero, Int.zero_sub, ← Nat.mul_assoc]; exact hB.1
  · rw [Int.sub_zero, Int.zero_sub, ← Nat.mul_assoc]; exact hB.2.1
  · rw [Int.sub_zero, Int.zero_sub, ← Nat.mul_assoc]; exact hB.2.2

/-- The quotient of two floats, a whole number M and a power of ten, between the boundaries. -/
theorem quo_ok {mant : Nat} {E : Int} {z : Nat} (h : Flt mant E z) (s : Bool) (M k n : Nat) (j : Int) (hM0 : 0 < M) (hM1 : M < 2 ^ 53) (hn0 : 2 ^ 52 ≤ n) (hn1 : n < 2 ^ 53) (hnj : n * 2 ^ j.toNat = 10 ^ k * 2 ^ (-j).toNat) (hB : Between mant E k M)
    (x y : Nat) (hx : double.read x = .number s (M * 2 ^ (52 - M.log2)) ((M.log2 : Int) - 52)) (hy : double.read y = .number false n j) :
    double.div x y = some (double.word s (rungOf mant E)) := by
  have hL52 : M.log2 ≤ 52 := by
    have := (Nat.log2_lt (by omega : M ≠ 0)).2 hM1
    omega
  obtain ⟨L, hL⟩ : ∃ L, M.log2 = L := ⟨_, rfl⟩
  have hML := (Nat.log2_eq_iff (show M ≠ 0 by omega)).1 hL
  have hm'0 : M * 2 ^ (52 - L) ≠ 0 := Nat.mul_ne_zero (by omega) (Nat.ne_of_gt (Nat.pow_pos (by omega)))
  have hm'l : (M * 2 ^ (52 - L)).log2 = 52 := by rw [log2_shift _ _ (by omega), hL]; omega
  have hnl : n.log2 = 52 := (Nat.log2_eq_iff (by omega)).2 ⟨hn0, hn1⟩
  unfold Format.div
  rw [hx, hy, hL]
  simp only [Datum.quotient, hm'l, hnl, if_neg (show ¬ n = 0 by omega)]
  rw [show double.fractionBits + 2 + 52 - 52 = 54 from rfl, Nat.shiftLeft_eq]
  have hdv : M * 2 ^ (52 - L) * 2 ^ 54 = M * 2 ^ (106 - L) := by
    rw [Nat.mul_assoc, ← Nat.pow_add]; congr 2; omega
  rw [hdv]
  obtain ⟨dv, hdve⟩ : ∃ dv, M * 2 ^ (106 - L) = dv := ⟨_, rfl⟩
  rw [hdve]
  show some (double.nearest (s ^^ false) (2 * (dv / n) + (dv % n != 0).toNat) ((L : Int) - 52 - j - (54 : Nat) - 1)) = _
  rw [Bool.xor_false]
  obtain ⟨F, hF⟩ : ∃ F, dv / n = F := ⟨_, rfl⟩
  obtain ⟨r, hr⟩ : ∃ r, dv % n = r := ⟨_, rfl⟩
  have hdm := Nat.div_add_mod dv n
  have hrn := Nat.mod_lt dv (show 0 < n by omega)
  rw [hF, hr] at hdm
  rw [hr] at hrn
  rw [hF, hr]
  have hplace : (L : Int) - 52 - j - (54 : Nat) - 1 = L - 107 - j := by omega
  rw [hplace]
  -- the boundaries, brought to the quotient's place
  obtain ⟨Ep, hEp⟩ : ∃ x, E.toNat = x := ⟨_, rfl⟩
  obtain ⟨Em, hEm⟩ : ∃ x, (-E).toNat = x := ⟨_, rfl⟩
  obtain ⟨jp, hjp⟩ : ∃ x, j.toNat = x := ⟨_, rfl⟩
  obtain ⟨jm, hjm⟩ : ∃ x, (-j).toNat = x := ⟨_, rfl⟩
  unfold Between up at hB
  rw [hEp, hEm, show (k : Int).toNat = k by omega, show (-(k : Int)).toNat = 0 by omega, Nat.pow_zero, Nat.mul_one] at hB
  rw [hjp, hjm] at hnj
  have p2 : ∀ a : Nat, 0 < (2 : Nat) ^ a := fun a => Nat.pow_pos (by omega)
  -- X 2^(E+ + j+) n  against  4 M 2^(E- + j-)
  have conv : ∀ X : Nat, X * (2 ^ Ep * 10 ^ k) * 2 ^ jm = X * n * 2 ^ (Ep + jp) := fun X => by
    rw [Nat.pow_add]
    have : X * (2 ^ Ep * 10 ^ k) * 2 ^ jm = X * 2 ^ Ep * (10 ^ k * 2 ^ jm) := by simp only [Nat.mul_comm, Nat.mul_left_comm, Nat.mul_assoc]
    rw [this, ← hnj]
    simp only [Nat.mul_comm, Nat.mul_left_comm, Nat.mul_assoc]
  have convM : 4 * M * 2 ^ Em * 2 ^ jm = 4 * M * 2 ^ (Em + jm) := by rw [Nat.pow_add, Nat.mul_assoc]
  obtain ⟨l1, l2, l3, l4, l5⟩ := lo4_ge (E := E) h.m0
  obtain ⟨X, hX⟩ : ∃ X, lo4 mant E = X := ⟨_, rfl⟩
  rw [hX] at hB l1 l2 l3 l4 l5
  have b1 : X * n * 2 ^ (Ep + jp) ≤ 4 * M * 2 ^ (Em + jm) := by rw [← conv, ← convM]; exact Nat.mul_le_mul_right _ hB.1
  have b2 : 4 * M * 2 ^ (Em + jm) ≤ (4 * mant + 2) * n * 2 ^ (Ep + jp) := by rw [← conv, ← convM]; exact Nat.mul_le_mul_right _ hB.2.1
  have b3 : mant % 2 = 1 → X * n * 2 ^ (Ep + jp) < 4 * M * 2 ^ (Em + jm) ∧ 4 * M * 2 ^ (Em + jm) < (4 * mant + 2) * n * 2 ^ (Ep + jp) := fun ho => by
    rw [← conv, ← conv, ← convM]
    exact ⟨Nat.mul_lt_mul_of_pos_right (hB.2.2 ho).1 (p2 _), Nat.mul_lt_mul_of_pos_right (hB.2.2 ho).2 (p2 _)⟩
  have hm1 := h.m1
  -- the place is low
  have hpl : -105 ≤ E + j - L := by
    have c1 : 2 ^ (L + 2 + (Em + jm)) ≤ 4 * M * 2 ^ (Em + jm) := by
      rw [Nat.pow_add]
      apply Nat.mul_le_mul_right
      have : (2 : Nat) ^ (L + 2) = 2 ^ L * 4 := by rw [Nat.pow_add]
      omega
    have c2 : (4 * mant + 2) * n * 2 ^ (Ep + jp) < 2 ^ (108 + (Ep + jp)) := by
      rw [Nat.pow_add 2 108]
      apply Nat.mul_lt_mul_of_pos_right _ (p2 _)
      have : (4 * mant + 2) * n < 2 ^ 55 * 2 ^ 53 := Nat.mul_lt_mul'' (by omega) hn1
      exact this
    have := (Nat.pow_lt_pow_iff_right (show 1 < 2 by omega)).1 (Nat.lt_of_le_of_lt c1 (Nat.lt_of_le_of_lt b2 c2))
    omega
  obtain ⟨t2, ht2⟩ : ∃ t2 : Nat, (t2 : Int) = E + j - L + 105 := ⟨(E + j - L + 105).toNat, by omega⟩
  have red : ∀ Y : Nat, (Y * n * 2 ^ (Ep + jp) ≤ 4 * M * 2 ^ (Em + jm) → Y * 2 ^ t2 * n ≤ 2 * dv) ∧ (4 * M * 2 ^ (Em + jm) ≤ Y * n * 2 ^ (Ep + jp) → 2 * dv ≤ Y * 2 ^ t2 * n) ∧ (Y * n * 2 ^ (Ep + jp) < 4 * M * 2 ^ (Em + jm) → Y * 2 ^ t2 * n < 2 * dv) ∧ (4 * M * 2 ^ (Em + jm) < Y * n * 2 ^ (Ep + jp) → 2 * dv < Y * 2 ^ t2 * n) := fun Y => by
    have e1 : Y * n * 2 ^ (Ep + jp) * 2 ^ (105 - L) = Y * 2 ^ t2 * n * 2 ^ (Em + jm) := by
      have : (2 : Nat) ^ (Ep + jp) * 2 ^ (105 - L) = 2 ^ t2 * 2 ^ (Em + jm) := by
        rw [← Nat.pow_add, ← Nat.pow_add]; congr 1; omega
      rw [Nat.mul_assoc, this]
      simp only [Nat.mul_comm, Nat.mul_left_comm, Nat.mul_assoc]
    have e2 : 4 * M * 2 ^ (Em + jm) * 2 ^ (105 - L) = 2 * dv * 2 ^ (Em + jm) := by
      have : 2 ^ (106 - L) = 2 * 2 ^ (105 - L) := by rw [← Nat.pow_succ']; congr 1; omega
      rw [← hdve, this]
      have a : 4 * M * 2 ^ (Em + jm) * 2 ^ (105 - L) = 4 * (M * 2 ^ (Em + jm) * 2 ^ (105 - L)) := by simp only [Nat.mul_assoc]
      have b : 2 * (M * (2 * 2 ^ (105 - L))) * 2 ^ (Em + jm) = 4 * (M * 2 ^ (Em + jm) * 2 ^ (105 - L)) := by
        have : M * (2 * 2 ^ (105 - L)) = 2 * (M * 2 ^ (105 - L)) := by simp only [Nat.mul_comm, Nat.mul_left_comm]
        rw [this, ← Nat.mul_assoc, show (2 * 2 : Nat) = 4 by rfl, Nat.mul_assoc]
        congr 1
        simp only [Nat.mul_comm, Nat.mul_left_comm, Nat.mul_assoc]
      rw [a, b]
    refine ⟨fun g => ?_, fun g => ?_, fun g => ?_, fun g => ?_⟩
    · have := Nat.mul_le_mul_right (2 ^ (105 - L)) g
      rw [e1, e2] at this
      exact Nat.le_of_mul_le_mul_right this (p2 _)
    · have := Nat.mul_le_mul_right (2 ^ (105 - L)) g
      rw [e1, e2] at this
      exact Nat.le_of_mul_le_mul_right this (p2 _)
    · have := Nat.mul_lt_mul_of_pos_right g (p2 (105 - L))
      rw [e1, e2] at this
      exact Nat.lt_of_mul_lt_mul_right this
    · have := Nat.mul_lt_mul_of_pos_right g (p2 (105 - L))
      rw [e1, e2] at this
      exact Nat.lt_of_mul_lt_mul_right this
  have d1 := (red X).1 b1
  have d2 := (red (4 * mant + 2)).2.1 b2
  have d3 := fun ho => (red X).2.2.1 (b3 ho).1
  have d4 := fun ho => (red (4 * mant + 2)).2.2.2 (b3 ho).2
  have hF53 : 2 ^ 53 ≤ F := by
    rw [← hF, Nat.le_div_iff_mul_le (by omega)]
    have : 2 ^ L * 2 ^ (106 - L) ≤ dv := by rw [← hdve]; exact Nat.mul_le_mul_right _ hML.1
    rw [← Nat.pow_add, show L + (106 - L) = 106 by omega] at this
    have : 2 ^ 53 * n ≤ 2 ^ 53 * 2 ^ 53 := Nat.mul_le_mul_left _ (by omega)
    omega
  obtain ⟨st, hst⟩ : ∃ st, (r != 0).toNat = st := ⟨_, rfl⟩
  have hst1 : st ≤ 1 ∧ (r = 0 → st = 0) ∧ (r ≠ 0 → st = 1) := by
    rw [← hst]
    by_cases h0 : r = 0
    · simp [h0]
    · have : (r != 0) = true := by simp [h0]
      rw [this]
      exact ⟨by decide, fun g => absurd g h0, fun _ => rfl⟩
  rw [hst]
  -- lower boundaries
  have low : ∀ Y : Nat, (Y * n ≤ 2 * dv → (Y % 2 = 0 ∨ Y ≤ 2 ^ 54) → Y ≤ 2 * F + st) ∧ (Y * n < 2 * dv → Y % 2 = 0 → Y < 2 * F + st) := fun Y => by
    constructor
    · rintro g (h0 | h0)
      · obtain ⟨y, rfl⟩ : ∃ y, Y = 2 * y := ⟨Y / 2, by omega⟩
        have : y ≤ F := by
          rw [← hF, Nat.le_div_iff_mul_le (by omega)]
          rw [Nat.mul_assoc] at g
          omega
        omega
      · omega
    · intro g h0
      obtain ⟨y, rfl⟩ : ∃ y, Y = 2 * y := ⟨Y / 2, by omega⟩
      rw [Nat.mul_assoc] at g
      have : y ≤ F := by
        rw [← hF, Nat.le_div_iff_mul_le (by omega)]
        omega
      rcases Nat.lt_or_ge y F with h' | h'
      · omega
      · have he : y = F := by omega
        subst he
        have hr0 : r ≠ 0 := by
          rintro rfl
          rw [Nat.mul_comm n] at hdm
          omega
        have := hst1.2.2 hr0
        omega
  have high : ∀ Y : Nat, Y % 2 = 0 → (2 * dv ≤ Y * n → 2 * F + st ≤ Y) ∧ (2 * dv < Y * n → 2 * F + st < Y) := fun Y h0 => by
    obtain ⟨y, rfl⟩ : ∃ y, Y = 2 * y := ⟨Y / 2, by omega⟩
    rw [Nat.mul_assoc]
    rw [Nat.mul_comm n] at hdm
    constructor
    · intro g
      have hle : F ≤ y := by
        apply Decidable.byContradiction
        intro hc
        have : (y + 1) * n ≤ F * n := Nat.mul_le_mul_right n (by omega)
        rw [Nat.add_mul] at this
        omega
      rcases Nat.lt_or_ge F y with h' | h'
      · omega
      · have he : y = F := by omega
        subst he
        have := hst1.2.1 (by omega)
        omega
    · intro g
      have hlt : F < y := by
        apply Decidable.byContradiction
        intro hc
        have : y * n ≤ F * n := Nat.mul_le_mul_right n (by omega)
        omega
      omega
  have ht : (E - ((L : Int) - 107 - j)).toNat = t2 + 2 := by omega
  have hi : ((L : Int) - 107 - j - E).toNat = 0 := by omega
  have q4 : ∀ Y : Nat, Y * 2 ^ (t2 + 2) = 4 * (Y * 2 ^ t2) := fun Y => by
    have : (2 : Nat) ^ (t2 + 2) = 4 * 2 ^ t2 := by rw [Nat.pow_add]; omega
    rw [this, Nat.mul_left_comm]
  have hev : ((4 * mant + 2) * 2 ^ t2) % 2 = 0 := by
    rw [show 4 * mant + 2 = 2 * (2 * mant + 1) by omega, Nat.mul_assoc, Nat.mul_mod_right]
  have hXev : X = 4 * mant - 2 → (X * 2 ^ t2) % 2 = 0 := fun hx => by
    rw [show X = 2 * (2 * mant - 1) by omega, Nat.mul_assoc, Nat.mul_mod_right]
  have hodd : mant % 2 = 1 → X = 4 * mant - 2 := fun ho => l4 (by intro hc; rw [hc] at ho; omega)
  congr 1
  refine nearest_ok h.e0 h.e1 h.m0 h.m1 h.nrm s _ _ ?_ ?_ ?_
  · rw [ht, hi, hX, q4, Nat.pow_zero, Nat.mul_one]
    apply Nat.mul_le_mul_left
    refine (low _).1 d1 ?_
    rcases Nat.eq_zero_or_pos t2 with h0 | h0
    · rw [h0, Nat.pow_zero, Nat.mul_one]
      by_cases hc : mant = 2 ^ 52
      · right; omega
      · left; have := l4 hc; omega
    · left
      rw [show t2 = (t2 - 1) + 1 by omega, Nat.pow_succ, ← Nat.mul_assoc, Nat.mul_mod_left]
  · rw [ht, hi, q4, Nat.pow_zero, Nat.mul_one]
    exact Nat.mul_le_mul_left _ ((high _ hev).1 d2)
  · intro ho
    rw [ht, hi, hX, q4, q4, Nat.pow_zero, Nat.mul_one]
    have a := (low _).2 (d3 ho) (hXev (hodd ho))
    have b := (high _ hev).2 (d4 ho)
    omega
end Go.Proofs.YtcfknhboicomjaaGreatDoor.Fy
