/- Plain: strconv's parseFloat64, on numbers: a decimal between a float's boundaries is that float. -/
import Derived.Test.YtcfknhboicomjaaGreatDoorPrs
namespace Go.Proofs.YtcfknhboicomjaaGreatDoor.Fy

def prB (d : Nat) : Nat := d.log2 + 1
def prE (d : Nat) (Q : Int) : Int := min 1074 (53 - prB d - l2 Q)
def prS (d : Nat) (Q : Int) : Int := -(prE d Q - (64 - prB d) + l2 Q + 3)
def prU (d : Nat) (Q : Int) : Nat := usc (d * 2 ^ (64 - prB d)) (rowOf Q).1 (rowOf Q).2 (prS d Q).toNat
/-- strconv.parseFloat64 of d 10^Q: the mantissa and the exponent. -/
def prs (d : Nat) (Q : Int) : Nat × Int := if 2 ^ 55 - 2 ≤ prU d Q then (rnd (halve (prU d Q)), 1 - prE d Q) else (rnd (prU d Q), -prE d Q)

theorem unr_lt {a b K : Nat} (hb : 0 < b) (hK : K % 2 = 0) (h : a < K * b) : unr a b < K := by
  obtain ⟨q, ⟨h1, h2⟩ | ⟨h1, h2, h3⟩⟩ := unr_cases (a := a) hb
  · rw [h2]
    rw [h1] at h
    exact Nat.lt_of_mul_lt_mul_right h
  · rw [h3]
    have : q < K := Nat.lt_of_mul_lt_mul_right (Nat.lt_trans h1 h)
    omega
theorem unr_ge {a b K : Nat} (hb : 0 < b) (h : K * b ≤ a) : K ≤ unr a b := by
  obtain ⟨q, ⟨h1, h2⟩ | ⟨h1, h2, h3⟩⟩ := unr_cases (a := a) hb
  · rw [h2]
    rw [h1] at h
    exact Nat.le_of_mul_le_mul_right h hb
  · rw [h3]
    have : K < q + 1 := Nat.lt_of_mul_lt_mul_right (Nat.lt_of_le_of_lt h h2)
    omega
theorem halve_int {q mant lo : Nat} (hlo : 4 * mant ≤ lo + 2) (h1 : 2 * lo ≤ q) (h2 : q ≤ 2 * (4 * mant + 2)) (h3 : mant % 2 = 1 → q ≠ 2 * (4 * mant - 2) ∧ q ≠ 2 * (4 * mant + 2)) : rnd (halve q) = mant := by
  unfold halve
  rcases Nat.mod_two_eq_zero_or_one q with h | h
  · rw [h, Nat.or_zero]
    exact rnd_int (by omega) (by omega) (fun ho => by have := h3 ho; omega)
  · rw [h, lor_one]
    exact rnd_int (by omega) (by omega) (fun ho => by omega)

/-- What is known of the numbers of a parse. -/
structure Ctx (mant : Nat) (E : Int) (d : Nat) (Q : Int) (c n m N M : Nat) : Prop where
  m0 : 0 < m
  M0 : 0 < M
  nm : N * n = 2 ^ (c + 2) * (M * m)
  lo : lo4 mant E * N ≤ 4 * d * M
  hi : 4 * d * M ≤ (4 * mant + 2) * N
  odd : mant % 2 = 1 → lo4 mant E * N < 4 * d * M ∧ 4 * d * M < (4 * mant + 2) * N
theorem Ctx.conv {mant : Nat} {E : Int} {d : Nat} {Q : Int} {c n m N M : Nat} (h : Ctx mant E d Q c n m N M) (L : Nat) (hn0 : 0 < n) :
    (L * N ≤ 4 * d * M → L * 2 ^ c * m ≤ d * n) ∧ (4 * d * M ≤ L * N → d * n ≤ L * 2 ^ c * m) ∧ (L * N < 4 * d * M → L * 2 ^ c * m < d * n) ∧ (4 * d * M < L * N → d * n < L * 2 ^ c * m) := by
  have e1 : L * N * n = L * 2 ^ c * m * (4 * M) := by
    rw [Nat.mul_assoc, h.nm, Nat.pow_add]
    simp only [Nat.mul_comm, Nat.mul_left_comm, Nat.mul_assoc]
  have e2 : 4 * d * M * n = d * n * (4 * M) := by simp only [Nat.mul_comm, Nat.mul_left_comm, Nat.mul_assoc]
  have hM : 0 < 4 * M := by have := h.M0; omega
  refine ⟨fun g => ?_, fun g => ?_, fun g => ?_, fun g => ?_⟩
  · have := Nat.mul_le_mul_right n g
    rw [e1, e2] at this
    exact Nat.le_of_mul_le_mul_right this hM
  · have := Nat.mul_le_mul_right n g
    rw [e1, e2] at this
    exact Nat.le_of_mul_le_mul_right this hM
  · have := Nat.mul_lt_mul_of_pos_right g hn0
    rw [e1, e2] at this
    exact Nat.lt_of_mul_lt_mul_right this
  · have := Nat.mul_lt_mul_of_pos_right g hn0
    rw [e1, e2] at this
    exact Nat.lt_of_mul_lt_mul_right this

/-- The end: whether uscale is exact, or very near a whole number that is no boundary. -/
theorem prs_end {mant : Nat} {E : Int} {d c n m u e : Nat} {s : Nat} (hm1 : mant < 2 ^ 53) (hm0 : 0 < mant) (hc : c = 0 ∨ (c = 1 ∧ 2 ^ 52 ≤ mant)) (hm : 0 < m)
    (g1 : lo4 mant E * 2 ^ c * m ≤ d * n) (g2 : d * n ≤ (4 * mant + 2) * 2 ^ c * m) (g3 : mant % 2 = 1 → lo4 mant E * 2 ^ c * m < d * n ∧ d * n < (4 * mant + 2) * 2 ^ c * m)
    (hlo : 4 * mant ≤ lo4 mant E + 2) (hlon : c = 1 → 2 ^ 54 - 1 ≤ lo4 mant E) (hloodd : mant % 2 = 1 → lo4 mant E = 4 * mant - 2)
    (hu : u = unr (d * n) m ∨ ∃ q, u = q ∧ d * n ≠ q * m ∧ d * n * 2 ^ (63 + s) < q * m * 2 ^ (63 + s) + m ∧ q * m * 2 ^ (63 + s) < d * n * 2 ^ (63 + s) + m)
    (hP : mant % 2 = 1 → ∀ B, B = 4 * mant - 2 ∨ B = 4 * mant + 2 → d * n ≠ B * 2 ^ c * m → d * n * 2 ^ (63 + s) < B * 2 ^ c * m * 2 ^ (63 + s) + m → B * 2 ^ c * m * 2 ^ (63 + s) < d * n * 2 ^ (63 + s) + m → False) :
    (c = 0 → ¬ 2 ^ 55 - 2 ≤ u ∧ rnd u = mant) ∧ (c = 1 → 2 ^ 55 - 2 ≤ u ∧ rnd (halve u) = mant) := by
  rcases hu with rfl | ⟨q, rfl, hne, q1, q2⟩
  · constructor
    · intro h0
      subst h0
      rw [Nat.pow_zero, Nat.mul_one] at g1 g2 g3
      rw [Nat.mul_one] at g3
      have r1 : 4 * mant * m ≤ d * n + 2 * m := by
        have := Nat.mul_le_mul_right m hlo
        rw [Nat.add_mul] at this
        omega
      constructor
      · have : unr (d * n) m < 2 ^ 55 - 2 := by
          apply unr_lt hm (by decide)
          rcases Nat.mod_two_eq_zero_or_one mant with ho | ho
          · refine Nat.lt_of_le_of_lt g2 (Nat.mul_lt_mul_of_pos_right (by omega) hm)
          · refine Nat.lt_of_lt_of_le (g3 ho).2 (Nat.mul_le_mul_right m (by omega))
        omega
      · refine rnd_mant hm r1 g2 (fun ho => ⟨?_, (g3 ho).2⟩)
        have := Nat.mul_le_mul_right m hlo
        rw [Nat.add_mul] at this
        have := (g3 ho).1
        omega
    · intro h1
      subst h1
      have hmn : 2 ^ 52 ≤ mant := by rcases hc with h | h <;> omega
      rw [Nat.pow_one] at g1 g2 g3
      have e : ∀ L : Nat, L * 2 * m = L * (2 * m) := fun L => Nat.mul_assoc ..
      have r0 : (2 ^ 55 - 2) * m ≤ d * n := by
        refine Nat.le_trans (Nat.mul_le_mul_right m ?_) g1
        have := hlon rfl
        omega
      refine ⟨unr_ge hm r0, ?_⟩
      rw [halve_unr hm]
      rw [e] at g1 g2
      refine rnd_mant (by omega) ?_ g2 (fun ho => ⟨?_, ?_⟩)
      · have := Nat.mul_le_mul_right (2 * m) hlo
        rw [Nat.add_mul] at this
        omega
      · have := Nat.mul_le_mul_right (2 * m) hlo
        rw [Nat.add_mul] at this
        have := (g3 ho).1
        rw [e] at this
        omega
      · have := (g3 ho).2
        rw [e] at this
        exact this
  · obtain ⟨S, hS⟩ : ∃ S, (2 : Nat) ^ (63 + s) = S := ⟨_, rfl⟩
    have hS0 : 0 < S := hS ▸ Nat.two_pow_pos _
    rw [hS] at q1 q2 hP
    have t1 : d * n < (u + 1) * m := by
      apply Nat.lt_of_mul_lt_mul_right (a := S)
      rw [Nat.add_mul, Nat.add_mul, Nat.one_mul]
      have : m * 1 ≤ m * S := Nat.mul_le_mul_left m hS0
      omega
    have t2 : u * m < d * n + m := by
      apply Nat.lt_of_mul_lt_mul_right (a := S)
      rw [Nat.add_mul]
      have : m * 1 ≤ m * S := Nat.mul_le_mul_left m hS0
      omega
    have w1 : lo4 mant E * 2 ^ c ≤ u := by
      have : lo4 mant E * 2 ^ c < u + 1 := Nat.lt_of_mul_lt_mul_right (Nat.lt_of_le_of_lt g1 t1)
      omega
    have w2 : u ≤ (4 * mant + 2) * 2 ^ c := by
      have : u * m < ((4 * mant + 2) * 2 ^ c + 1) * m := by rw [Nat.add_mul, Nat.one_mul]; omega
      have := Nat.lt_of_mul_lt_mul_right this
      omega
    have w3 : mant % 2 = 1 → u ≠ (4 * mant - 2) * 2 ^ c ∧ u ≠ (4 * mant + 2) * 2 ^ c := fun ho => by
      constructor
      · intro hc'
        rw [hc'] at hne q1 q2
        exact hP ho _ (.inl rfl) hne q1 q2
      · intro hc'
        rw [hc'] at hne q1 q2
        exact hP ho _ (.inr rfl) hne q1 q2
    constructor
    · intro h0
      subst h0
      rw [Nat.pow_zero, Nat.mul_one] at w1 w2
      rw [Nat.pow_zero, Nat.mul_one, Nat.mul_one] at w3
      constructor
      · rcases Nat.mod_two_eq_zero_or_one mant with ho | ho
        · omega
        · have := w3 ho; omega
      · exact rnd_int (by omega) w2 (fun ho => by have := w3 ho; have := hloodd ho; omega)
    · intro h1
      subst h1
      have hmn : 2 ^ 52 ≤ mant := by rcases hc with h | h <;> omega
      rw [Nat.pow_one] at w1 w2 w3
      have := hlon rfl
      exact ⟨by omega, halve_int hlo (by omega) (by omega) (fun ho => by have := w3 ho; omega)⟩
end Go.Proofs.YtcfknhboicomjaaGreatDoor.Fy
