/- Plain: strconv's shortFloat, on numbers: the digits that it gives lie between the float's boundaries. -/
import Derived.Test.YtcfknhboicomjaaGreatDoorShort
namespace Go.Proofs.YtcfknhboicomjaaGreatDoor.Fy

theorem lor_one (q : Nat) : q ||| 1 = 2 * (q / 2) + 1 := by
  apply Nat.eq_of_testBit_eq
  intro i
  cases i with
  | zero => simp
  | succ i =>
    rw [Nat.testBit_or, Nat.testBit_succ, Nat.testBit_succ 1, Nat.testBit_succ (2 * (q / 2) + 1)]
    have : (2 * (q / 2) + 1) / 2 = q / 2 := by omega
    rw [this]
    simp
theorem unr_cases {a b : Nat} (hb : 0 < b) : ∃ q, (a = q * b ∧ unr a b = q) ∨ (q * b < a ∧ a < (q + 1) * b ∧ unr a b = 2 * (q / 2) + 1) := by
  refine ⟨a / b, ?_⟩
  have h1 := Nat.div_add_mod a b
  have h2 := Nat.mod_lt a hb
  rw [Nat.mul_comm] at h1
  by_cases h : a % b = 0
  · left
    refine ⟨by omega, ?_⟩
    unfold unr
    rw [if_pos h, Nat.or_zero]
  · right
    refine ⟨by omega, by rw [Nat.add_mul]; omega, ?_⟩
    unfold unr
    rw [if_neg h, lor_one]

theorem ceil0 {a b d : Nat} (hb : 0 < b) : unr a b ≤ 4 * d ↔ a ≤ 4 * d * b := by
  obtain ⟨q, ⟨h1, h2⟩ | ⟨h1, h2, h3⟩⟩ := unr_cases (a := a) hb
  · rw [h2, h1]
    exact ⟨fun h => Nat.mul_le_mul_right b h, fun h => Nat.le_of_mul_le_mul_right h hb⟩
  · rw [h3]
    constructor
    · intro h
      exact Nat.le_trans (Nat.le_of_lt h2) (Nat.mul_le_mul_right b (by omega))
    · intro h
      have : q < 4 * d := Nat.lt_of_mul_lt_mul_right (Nat.lt_of_lt_of_le h1 h)
      omega
theorem ceil1 {a b d : Nat} (hb : 0 < b) : unr a b + 1 ≤ 4 * d ↔ a < 4 * d * b := by
  obtain ⟨q, ⟨h1, h2⟩ | ⟨h1, h2, h3⟩⟩ := unr_cases (a := a) hb
  · rw [h2, h1]
    exact ⟨fun h => Nat.mul_lt_mul_of_pos_right h hb, fun h => Nat.lt_of_mul_lt_mul_right h⟩
  · rw [h3]
    constructor
    · intro h
      exact Nat.lt_of_lt_of_le h2 (Nat.mul_le_mul_right b (by omega))
    · intro h
      have : q < 4 * d := Nat.lt_of_mul_lt_mul_right (Nat.lt_trans h1 h)
      omega
theorem floor0 {a b d : Nat} (hb : 0 < b) : 4 * d ≤ unr a b ↔ 4 * d * b ≤ a := by
  obtain ⟨q, ⟨h1, h2⟩ | ⟨h1, h2, h3⟩⟩ := unr_cases (a := a) hb
  · rw [h2, h1]
    exact ⟨fun h => Nat.mul_le_mul_right b h, fun h => Nat.le_of_mul_le_mul_right h hb⟩
  · rw [h3]
    constructor
    · intro h
      exact Nat.le_trans (Nat.mul_le_mul_right b (by omega)) (Nat.le_of_lt h1)
    · intro h
      have : 4 * d < q + 1 := Nat.lt_of_mul_lt_mul_right (Nat.lt_of_le_of_lt h h2)
      omega
theorem floor1 {a b d : Nat} (hb : 0 < b) : 4 * d + 1 ≤ unr a b ↔ 4 * d * b < a := by
  obtain ⟨q, ⟨h1, h2⟩ | ⟨h1, h2, h3⟩⟩ := unr_cases (a := a) hb
  · rw [h2, h1]
    exact ⟨fun h => Nat.mul_lt_mul_of_pos_right h hb, fun h => Nat.lt_of_mul_lt_mul_right h⟩
  · rw [h3]
    constructor
    · intro h
      exact Nat.lt_of_le_of_lt (Nat.mul_le_mul_right b (by omega)) h1
    · intro h
      have : 4 * d < q + 1 := Nat.lt_of_mul_lt_mul_right (Nat.lt_trans h h2)
      omega
def rnd (u : Nat) : Nat := (u + 1 + u / 4 % 2) / 4
theorem rnd_near {a b : Nat} (hb : 0 < b) : 4 * rnd (unr a b) * b ≤ a + 2 * b ∧ a ≤ 4 * rnd (unr a b) * b + 2 * b := by
  have step : ∀ q r : Nat, 4 * r ≤ q + 2 → 4 * r * b ≤ q * b + 2 * b := fun q r e => by
    have := Nat.mul_le_mul_right b e
    rw [Nat.add_mul] at this
    exact this
  have step2 : ∀ q r : Nat, q ≤ 4 * r + 2 → q * b ≤ 4 * r * b + 2 * b := fun q r e => by
    have := Nat.mul_le_mul_right b e
    rw [Nat.add_mul] at this
    exact this
  obtain ⟨q, ⟨h1, h2⟩ | ⟨h1, h2, h3⟩⟩ := unr_cases (a := a) hb
  · rw [h2, h1]
    exact ⟨step q _ (by unfold rnd; omega), step2 q _ (by unfold rnd; omega)⟩
  · rw [h3]
    have f1 := step q (rnd (2 * (q / 2) + 1)) (by unfold rnd; omega)
    have f2 := step2 (q + 1) (rnd (2 * (q / 2) + 1)) (by unfold rnd; omega)
    exact ⟨by omega, by omega⟩

def shZ (e : Int) : Nat := if -1085 ≤ e then 11 else (11 + (-1085 - e)).toNat
def shSk (m : Nat) (e : Int) : Bool := decide (m = 2 ^ 63 ∧ -1085 < e)
def shP (m : Nat) (e : Int) : Int := if shSk m e then -sk (e + shZ e) else -lg (e + shZ e)
def shMin (m : Nat) (e : Int) : Nat := if shSk m e then m - 2 ^ (shZ e - 2) else m - 2 ^ (shZ e - 1)
def shMax (m : Nat) (e : Int) : Nat := m + 2 ^ (shZ e - 1)
def shOdd (m : Nat) (e : Int) : Nat := m / 2 ^ shZ e % 2
def shU (m : Nat) (e : Int) (x : Nat) : Nat := usc x (rowOf (shP m e)).1 (rowOf (shP m e)).2 (-(e + l2 (shP m e) + 3)).toNat
def shLo (m : Nat) (e : Int) : Nat := (shU m e (shMin m e) + shOdd m e + 3) / 4
def shHi (m : Nat) (e : Int) : Nat := (shU m e (shMax m e) - shOdd m e) / 4
/-- strconv.shortFloat[float64] of m 2^e. -/
def shortF (m : Nat) (e : Int) : Nat × Int :=
  if shLo m e ≤ shHi m e / 10 * 10 then (shHi m e / 10, 1 - shP m e)
  else if shLo m e < shHi m e then (rnd (shU m e m), -shP m e) else (shLo m e, -shP m e)

/-- The lower boundary of a float, four times. -/
def lo4 (mant : Nat) (E : Int) : Nat := if mant = 2 ^ 52 ∧ -1074 < E then 4 * mant - 1 else 4 * mant - 2
/-- d 10^(-p) lies between the boundaries of mant 2^E, on one only where mant is even. -/
def Between (mant : Nat) (E p : Int) (d : Nat) : Prop :=
  lo4 mant E * up E p ≤ 4 * d * up (-E) (-p) ∧ 4 * d * up (-E) (-p) ≤ (4 * mant + 2) * up E p ∧
  (mant % 2 = 1 → lo4 mant E * up E p < 4 * d * up (-E) (-p) ∧ 4 * d * up (-E) (-p) < (4 * mant + 2) * up E p)

theorem between_iff {mant : Nat} {E p : Int} {d ul uh o : Nat} (ho : o = mant % 2) (hl : ul = unr (lo4 mant E * up E p) (up (-E) (-p))) (hh : uh = unr ((4 * mant + 2) * up E p) (up (-E) (-p))) :
    (ul + o ≤ 4 * d ∧ 4 * d + o ≤ uh) ↔ Between mant E p d := by
  have hm := up_pos (-E) (-p)
  unfold Between
  subst hl hh
  rcases Nat.mod_two_eq_zero_or_one mant with h | h
  · rw [ho, h, Nat.add_zero, Nat.add_zero, ceil0 hm, floor0 hm]
    exact ⟨fun g => ⟨g.1, g.2, fun e => by omega⟩, fun g => ⟨g.1, g.2.1⟩⟩
  · rw [ho, h, ceil1 hm, floor1 hm]
    exact ⟨fun g => ⟨Nat.le_of_lt g.1, Nat.le_of_lt g.2, fun _ => g⟩, fun g => g.2.2 rfl⟩

theorem short_ok {mant : Nat} {E : Int} {z : Nat} (h : Flt mant E z) :
    ∃ (p : Int) (d : Nat), (p = -lg E ∨ (p = -sk E ∧ -1074 < E)) ∧ -348 ≤ p ∧ p ≤ 347 ∧ Between mant E p d ∧ 0 < (shortF (mant * 2 ^ z) (E - z)).1 ∧ d < 10 ^ 17 ∧
      ((shortF (mant * 2 ^ z) (E - z)).2 = -p ∧ d = (shortF (mant * 2 ^ z) (E - z)).1 ∨ (shortF (mant * 2 ^ z) (E - z)).2 = 1 - p ∧ d = 10 * (shortF (mant * 2 ^ z) (E - z)).1) := by
  have hz := h.z11
  have hmz : ∀ t, t ≤ z → (2 : Nat) ^ z = 2 ^ t * 2 ^ (z - t) := fun t ht => by rw [← Nat.pow_add]; congr 1; omega
  -- the pieces of the code
  have e_z : shZ (E - z) = z := by
    unfold shZ
    by_cases hn : 2 ^ 52 ≤ mant
    · have := h.norm hn
      subst this
      rw [if_pos (by have := h.e0; omega)]
    · have hE : E = -1074 := by
        apply Decidable.byContradiction
        intro hc
        exact hn (h.nrm (by have := h.e0; omega))
      have h12 : 12 ≤ z := by
        apply Nat.le_of_not_lt
        intro hc
        have : z = 11 := by omega
        subst this
        have := h.z0
        omega
      rw [if_neg (by omega)]
      omega
  have e_sk : shSk (mant * 2 ^ z) (E - z) = decide (mant = 2 ^ 52 ∧ -1074 < E) := by
    unfold shSk
    apply decide_eq_decide.2
    constructor
    · intro ⟨h1, h2⟩
      have hz11 : z = 11 := by
        apply Decidable.byContradiction
        intro hc
        by_cases hn : 2 ^ 52 ≤ mant
        · exact hc (h.norm hn)
        · have hE : E = -1074 := by
            apply Decidable.byContradiction
            intro hc
            exact hn (h.nrm (by have := h.e0; omega))
          omega
      subst hz11
      exact ⟨by omega, by omega⟩
    · intro ⟨h1, h2⟩
      have := h.norm (by omega)
      subst this h1
      exact ⟨by decide, by omega⟩
  obtain ⟨skw, hskw⟩ : ∃ b, decide (mant = 2 ^ 52 ∧ -1074 < E) = b := ⟨_, rfl⟩
  rw [hskw] at e_sk
  obtain ⟨p, hp⟩ : ∃ p, (if skw then -sk E else -lg E) = p := ⟨_, rfl⟩
  have e_p : shP (mant * 2 ^ z) (E - z) = p := by
    unfold shP
    rw [e_sk, e_z, show E - (z : Int) + z = E by omega, hp]
  have hpor : p = -lg E ∨ (p = -sk E ∧ -1074 < E) := by
    rw [← hp]
    cases skw
    · left; rfl
    · right; exact ⟨rfl, (of_decide_eq_true hskw).2⟩
  have hP := pow_ok E h.e0 h.e1
  simp only [powOk, Bool.and_eq_true, decide_eq_true_eq] at hP
  obtain ⟨⟨⟨⟨⟨⟨⟨k1, k2⟩, k3⟩, k4⟩, k5⟩, k6⟩, k7⟩, k8⟩ := hP
  have hpr : -348 ≤ p ∧ p ≤ 347 := by
    rw [← hp]
    cases skw
    · exact ⟨k1, k2⟩
    · exact ⟨k5, k6⟩
  have e_lo : lo4 mant E = if skw then 4 * mant - 1 else 4 * mant - 2 := by
    unfold lo4
    rw [← hskw]
    by_cases hc : mant = 2 ^ 52 ∧ -1074 < E
    · simp [hc]
    · simp [hc]
  have e_min : shMin (mant * 2 ^ z) (E - z) = lo4 mant E * 2 ^ (z - 2) := by
    unfold shMin
    rw [e_sk, e_z, e_lo, ← z_split (M := mant) (z := z) (by omega)]
    have e2 : (2 : Nat) ^ (z - 1) = 2 * 2 ^ (z - 2) := by rw [show z - 1 = (z - 2) + 1 by omega, Nat.pow_succ, Nat.mul_comm]
    cases skw
    · simp only [Bool.false_eq_true, if_false]
      rw [e2, ← Nat.sub_mul]
    · simp only [if_true]
      rw [Nat.sub_mul, Nat.one_mul]
  have e_max : shMax (mant * 2 ^ z) (E - z) = (4 * mant + 2) * 2 ^ (z - 2) := by
    unfold shMax
    rw [e_z, ← z_split (M := mant) (z := z) (by omega)]
    have e2 : (2 : Nat) ^ (z - 1) = 2 * 2 ^ (z - 2) := by rw [show z - 1 = (z - 2) + 1 by omega, Nat.pow_succ, Nat.mul_comm]
    rw [e2, Nat.add_mul]
  have e_odd : shOdd (mant * 2 ^ z) (E - z) = mant % 2 := by
    unfold shOdd
    rw [e_z, Nat.mul_div_cancel _ (Nat.pow_pos (by omega))]
  have hs0 : 0 ≤ -(E - (z : Int) + l2 p + 3) := by
    have hN := near_ok E h.e0 h.e1
    have : 0 ≤ sOf E p := by
      rcases hpor with rfl | ⟨rfl, _⟩
      · have := hN.1
        simp only [chkE, Bool.and_eq_true, decide_eq_true_eq] at this
        exact this.1
      · have := hN.2
        simp only [chkE, Bool.and_eq_true, decide_eq_true_eq] at this
        exact this.1
    unfold sOf at this
    omega
  have hU : ∀ M, 4 * mant ≤ M + 2 → M ≤ 4 * mant + 2 → shU (mant * 2 ^ z) (E - z) (M * 2 ^ (z - 2)) = unr (M * up E p) (up (-E) (-p)) := fun M a b => by
    unfold shU
    rw [e_p]
    exact flt_usc h p hpor M a b _ (by omega)
  have hlo2 : 4 * mant ≤ lo4 mant E + 2 := by rw [e_lo]; cases skw <;> simp <;> omega
  have hlo3 : lo4 mant E ≤ 4 * mant + 2 := by rw [e_lo]; cases skw <;> simp <;> omega
  have u1 := hU (lo4 mant E) hlo2 hlo3
  have u2 := hU (4 * mant + 2) (by omega) (by omega)
  have u3 := hU (4 * mant) (by omega) (by omega)
  rw [z_split (M := mant) (z := z) (by omega)] at u3
  -- numbers
  obtain ⟨n, hn⟩ : ∃ n, up E p = n := ⟨_, rfl⟩
  obtain ⟨m, hm⟩ : ∃ m, up (-E) (-p) = m := ⟨_, rfl⟩
  have hm0 : 0 < m := hm ▸ up_pos _ _
  have hmn : m ≤ n ∧ (skw = true → 4 * m ≤ 3 * n) := by
    rw [← hm, ← hn, ← hp]
    cases skw
    · exact ⟨by simpa using k3, fun h => by cases h⟩
    · exact ⟨by have := k7; simp only [if_true, Int.neg_neg]; omega, fun _ => by simpa using k7⟩
  have hn14 : 3 * n < 40 * m ∧ (skw = false → n < 10 * m) := by
    rw [← hm, ← hn, ← hp]
    cases skw
    · exact ⟨by have := k4; simp only [Bool.false_eq_true, if_false, Int.neg_neg]; omega, fun _ => by simpa using k4⟩
    · exact ⟨by simpa using k8, fun h => by cases h⟩
  have hbi : ∀ d, (shU (mant * 2 ^ z) (E - z) (shMin (mant * 2 ^ z) (E - z)) + mant % 2 ≤ 4 * d ∧ 4 * d + mant % 2 ≤ shU (mant * 2 ^ z) (E - z) (shMax (mant * 2 ^ z) (E - z))) ↔ Between mant E p d := fun d =>
    between_iff rfl (by rw [e_min, u1]) (by rw [e_max, u2])
  have hfin : ∀ d, (shLo (mant * 2 ^ z) (E - z) ≤ d ∧ d ≤ shHi (mant * 2 ^ z) (E - z)) ↔ Between mant E p d := fun d => by
    rw [← hbi d]
    unfold shLo shHi
    rw [e_odd]
    constructor
    · intro ⟨a, b⟩
      have c2 := (hbi d).2
      refine ⟨by omega, ?_⟩
      have : 1 ≤ shU (mant * 2 ^ z) (E - z) (shMax (mant * 2 ^ z) (E - z)) := by
        rw [e_max, u2]
        have := (floor0 (a := (4 * mant + 2) * up E p) (d := 1) (up_pos (-E) (-p))).2 (by
          rw [hn, hm]
          have := Nat.mul_le_mul (show 4 * 1 ≤ 4 * mant + 2 by have := h.m0; omega) hmn.1
          exact this)
        omega
      omega
    · intro ⟨a, b⟩
      omega
  -- the interval is wide enough
  have hlon : lo4 mant E * n + (if skw then 1 else 2) * n = 4 * (mant * n) := by
    rw [e_lo, ← Nat.add_mul]
    have : (if skw = true then 4 * mant - 1 else 4 * mant - 2) + (if skw = true then 1 else 2) = 4 * mant := by have := h.m0; cases skw <;> simp <;> omega
    rw [this, Nat.mul_assoc]
  have hhin : (4 * mant + 2) * n = 4 * (mant * n) + 2 * n := by rw [Nat.add_mul, Nat.mul_assoc]
  have hskodd : skw = true → mant % 2 = 0 := fun hs => by
    rw [← hskw] at hs
    have := (of_decide_eq_true hs).1
    omega
  have hsome : ∃ k, Between mant E p k := by
    unfold Between
    rw [hn, hm, hhin]
    obtain ⟨X, hX⟩ : ∃ X, mant * n = X := ⟨_, rfl⟩
    rw [hX] at hlon hhin ⊢
    rcases Nat.mod_two_eq_zero_or_one mant with ho | ho
    · refine ⟨(4 * X + 2 * n) / (4 * m), ?_, ?_, fun e => by omega⟩
      · have d1 := Nat.div_add_mod (4 * X + 2 * n) (4 * m)
        have d2 := Nat.mod_lt (4 * X + 2 * n) (show 0 < 4 * m by omega)
        obtain ⟨k, hk⟩ : ∃ k, (4 * X + 2 * n) / (4 * m) = k := ⟨_, rfl⟩
        rw [hk] at d1 ⊢
        have e : 4 * k * m = 4 * m * k := by simp only [Nat.mul_comm, Nat.mul_left_comm]
        rw [e]
        cases skw
        · simp at hlon; omega
        · simp at hlon; have := hmn.2 rfl; omega
      · have d1 := Nat.div_add_mod (4 * X + 2 * n) (4 * m)
        obtain ⟨k, hk⟩ : ∃ k, (4 * X + 2 * n) / (4 * m) = k := ⟨_, rfl⟩
        rw [hk] at d1 ⊢
        have e : 4 * k * m = 4 * m * k := by simp only [Nat.mul_comm, Nat.mul_left_comm]
        rw [e]; omega
    · have hsf : skw = false := by
        cases hh : skw
        · rfl
        · have := hskodd hh; omega
      subst hsf
      simp at hlon
      have d1 := Nat.div_add_mod (4 * X + 2 * n - 1) (4 * m)
      have d2 := Nat.mod_lt (4 * X + 2 * n - 1) (show 0 < 4 * m by omega)
      obtain ⟨k, hk⟩ : ∃ k, (4 * X + 2 * n - 1) / (4 * m) = k := ⟨_, rfl⟩
      rw [hk] at d1
      have e : 4 * k * m = 4 * m * k := by simp only [Nat.mul_comm, Nat.mul_left_comm]
      have hne : lo4 mant E * n ≠ 4 * k * m := by
        intro hc
        -- then n = m, and 4 mant - 2 = 4 k
        have hnm : n = m := by omega
        rw [hnm] at hc
        have := Nat.eq_of_mul_eq_mul_right hm0 hc
        rw [e_lo] at this
        simp at this
        have := h.m0
        omega
      exact ⟨k, by omega, by omega, fun _ => ⟨by omega, by omega⟩⟩
  obtain ⟨k, hk⟩ := hsome
  have hk2 := (hfin k).2 hk
  -- d is small
  have hsmall : ∀ d, Between mant E p d → 0 < d ∧ d < 10 ^ 17 := fun d hd => by
    obtain ⟨b1, b2, _⟩ := hd
    rw [hn, hm] at b1 b2
    constructor
    · rcases Nat.eq_zero_or_pos d with h0 | h0
      · subst h0
        rw [Nat.mul_zero, Nat.zero_mul] at b1
        have hl1 : 1 ≤ lo4 mant E := by have := h.m0; rw [e_lo]; cases skw <;> simp <;> omega
        have := Nat.mul_pos hl1 (show 0 < n by omega)
        omega
      · exact h0
    · have h1 := h.m1
      cases hsw : skw
      · have h3 := hn14.2 hsw
        have h4 : (4 * mant + 2) * n < (4 * mant + 2) * (10 * m) := Nat.mul_lt_mul_of_pos_left h3 (by omega)
        have h5 : 4 * d * m < (4 * mant + 2) * 10 * m := by rw [Nat.mul_assoc (4 * mant + 2)]; omega
        have h6 := Nat.lt_of_mul_lt_mul_right h5
        omega
      · have hmt : mant = 2 ^ 52 := by rw [← hskw] at hsw; exact (of_decide_eq_true hsw).1
        have h4 : (4 * mant + 2) * (3 * n) < (4 * mant + 2) * (40 * m) := Nat.mul_lt_mul_of_pos_left hn14.1 (by omega)
        have h5 : 3 * (4 * d) * m < (4 * mant + 2) * 40 * m := by
          have e1 : (4 * mant + 2) * (3 * n) = 3 * ((4 * mant + 2) * n) := Nat.mul_left_comm ..
          rw [Nat.mul_assoc 3, Nat.mul_assoc (4 * mant + 2)]
          omega
        have h6 := Nat.lt_of_mul_lt_mul_right h5
        omega
  unfold shortF
  rw [e_p]
  by_cases c1 : shLo (mant * 2 ^ z) (E - z) ≤ shHi (mant * 2 ^ z) (E - z) / 10 * 10
  · rw [if_pos c1]
    have hb : Between mant E p (10 * (shHi (mant * 2 ^ z) (E - z) / 10)) := (hfin _).1 ⟨by omega, by omega⟩
    have := hsmall _ hb
    exact ⟨p, _, hpor, hpr.1, hpr.2, hb, by simp only; omega, this.2, .inr ⟨rfl, rfl⟩⟩
  · rw [if_neg c1]
    by_cases c2 : shLo (mant * 2 ^ z) (E - z) < shHi (mant * 2 ^ z) (E - z)
    · rw [if_pos c2]
      have hb : Between mant E p (rnd (shU (mant * 2 ^ z) (E - z) (mant * 2 ^ z))) := by
        rw [u3]
        obtain ⟨r1, r2⟩ := rnd_near (a := 4 * mant * up E p) (b := up (-E) (-p)) (up_pos _ _)
        obtain ⟨r, hr⟩ : ∃ r, rnd (unr (4 * mant * up E p) (up (-E) (-p))) = r := ⟨_, rfl⟩
        rw [hr] at r1 r2 ⊢
        rw [hn, hm] at r1 r2
        have e4 : 4 * mant * n = 4 * (mant * n) := Nat.mul_assoc ..
        rw [e4] at r1 r2
        obtain ⟨X, hX⟩ : ∃ X, mant * n = X := ⟨_, rfl⟩
        rw [hX] at hlon hhin r1 r2
        have hlob := (hfin _).1 ⟨Nat.le_refl _, Nat.le_of_lt c2⟩
        have hhib := (hfin _).1 ⟨Nat.le_of_lt c2, Nat.le_refl _⟩
        apply Classical.byContradiction
        intro hnb
        have hcase : r < shLo (mant * 2 ^ z) (E - z) ∨ shHi (mant * 2 ^ z) (E - z) < r := by
          apply Decidable.byContradiction
          intro hc
          exact hnb ((hfin r).1 ⟨by omega, by omega⟩)
        unfold Between at hnb hlob hhib
        rw [hn, hm, hhin] at hnb hlob hhib
        rcases hcase with hc | hc
        · -- left of the interval
          obtain ⟨dl, hdl⟩ : ∃ d, shLo (mant * 2 ^ z) (E - z) = d := ⟨_, rfl⟩
          obtain ⟨dh, hdh⟩ : ∃ d, shHi (mant * 2 ^ z) (E - z) = d := ⟨_, rfl⟩
          rw [hdl] at hc c2 hlob
          rw [hdh] at c2 hhib
          have g1 : 4 * r * m + 8 * m ≤ 4 * dh * m := by
            have := Nat.mul_le_mul_right m (show 4 * r + 8 ≤ 4 * dh by omega)
            rw [Nat.add_mul] at this
            exact this
          have g2 := hhib.2.1
          have g3 : 4 * r * m ≤ lo4 mant E * n := by
            apply Nat.le_of_not_lt
            intro hlt
            exact hnb ⟨by omega, by omega, fun ho => ⟨hlt, by have := (hhib.2.2 ho).2; omega⟩⟩
          cases hsw : skw
          · rw [hsw] at hlon
            simp at hlon
            have hnm : n = m := by omega
            have heq : 4 * r * m = lo4 mant E * m := by rw [hnm] at hlon g3; omega
            have := Nat.eq_of_mul_eq_mul_right hm0 heq
            rw [e_lo, hsw] at this
            simp at this
            have := h.m0
            omega
          · rw [hsw] at hlon
            simp at hlon
            omega
        · obtain ⟨dl, hdl⟩ : ∃ d, shLo (mant * 2 ^ z) (E - z) = d := ⟨_, rfl⟩
          obtain ⟨dh, hdh⟩ : ∃ d, shHi (mant * 2 ^ z) (E - z) = d := ⟨_, rfl⟩
          rw [hdl] at c2 hlob
          rw [hdh] at hc c2 hhib
          have g1 : 4 * dl * m + 8 * m ≤ 4 * r * m := by
            have := Nat.mul_le_mul_right m (show 4 * dl + 8 ≤ 4 * r by omega)
            rw [Nat.add_mul] at this
            exact this
          have g3 : 4 * X + 2 * n ≤ 4 * r * m := by
            apply Nat.le_of_not_lt
            intro hlt
            exact hnb ⟨by have := hlob.1; omega, by omega, fun ho => ⟨by have := (hlob.2.2 ho).1; omega, hlt⟩⟩
          have hnm : n = m := by have := hmn.1; omega
          cases hsw : skw
          · have heq : 4 * r * m = (4 * mant + 2) * m := by
              rw [hnm] at hhin g3
              omega
            have := Nat.eq_of_mul_eq_mul_right hm0 heq
            omega
          · have := hmn.2 hsw
            omega
      have := hsmall _ hb
      exact ⟨p, _, hpor, hpr.1, hpr.2, hb, this.1, this.2, .inl ⟨rfl, rfl⟩⟩
    · rw [if_neg c2]
      have hb : Between mant E p (shLo (mant * 2 ^ z) (E - z)) := (hfin _).1 ⟨Nat.le_refl _, by omega⟩
      have := hsmall _ hb
      exact ⟨p, _, hpor, hpr.1, hpr.2, hb, this.1, this.2, .inl ⟨rfl, rfl⟩⟩
end Go.Proofs.YtcfknhboicomjaaGreatDoor.Fy
