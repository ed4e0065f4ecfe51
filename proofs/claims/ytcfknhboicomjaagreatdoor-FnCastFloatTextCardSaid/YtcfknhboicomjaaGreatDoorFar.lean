/- Plain: a fraction between two neighbours has a great denominator; a checked bound on how near the multiples of a fraction come to whole numbers. -/
namespace Go.Proofs.YtcfknhboicomjaaGreatDoor.Fy

/-- Strictly between two neighbours a/b < c/d (b c - a d = 1) lies no fraction of a denominator below b + d. -/
theorem between {a b c d x y : Int} (hn : b * c - a * d = 1) (hb : 0 < b) (hd : 0 < d) (h1 : a * x < y * b) (h2 : y * d < c * x) : b + d ≤ x := by
  have e : x = b * (c * x - y * d) + d * (y * b - a * x) := by
    grind
  have h3 : 1 ≤ c * x - y * d := by omega
  have h4 : 1 ≤ y * b - a * x := by omega
  have h5 : b * 1 ≤ b * (c * x - y * d) := Int.mul_le_mul_of_nonneg_left h3 (by omega)
  have h6 : d * 1 ≤ d * (y * b - a * x) := Int.mul_le_mul_of_nonneg_left h4 (by omega)
  omega

/-- The certificate: a/b < n/m < c/d are neighbours, b + d exceeds B. Then for 0 < x < B and any y: x n / m is at y or at least as far from it as the nearer neighbour says. -/
theorem apart {a b c d n m B x y : Int} (hn : b * c - a * d = 1) (hb : 0 < b) (hd : 0 < d) (hm : 0 < m) (hB : B ≤ b + d) (hl : a * m < n * b) (hr : n * d < c * m) (hx0 : 0 < x) (hx : x < B) :
    (x * (n * b - a * m) ≤ (x * n - y * m) * b) ∨ (x * (c * m - n * d) ≤ (y * m - x * n) * d) := by
  by_cases h1 : a * x < y * b
  · by_cases h2 : y * d < c * x
    · have := between hn hb hd h1 h2
      omega
    · right
      have h3 : c * x ≤ y * d := by omega
      have h4 : c * x * m ≤ y * d * m := Int.mul_le_mul_of_nonneg_right h3 (by omega)
      have e1 : x * (c * m - n * d) = c * x * m - x * n * d := by
        rw [Int.mul_sub]
        simp only [Int.mul_comm, Int.mul_left_comm, Int.mul_assoc]
      have e2 : (y * m - x * n) * d = y * d * m - x * n * d := by
        rw [Int.sub_mul]
        simp only [Int.mul_comm, Int.mul_left_comm, Int.mul_assoc]
      omega
  · left
    have h3 : y * b ≤ a * x := by omega
    have h4 : y * b * m ≤ a * x * m := Int.mul_le_mul_of_nonneg_right h3 (by omega)
    have e1 : x * (n * b - a * m) = x * n * b - a * x * m := by
      rw [Int.mul_sub]
      simp only [Int.mul_comm, Int.mul_left_comm, Int.mul_assoc]
    have e2 : (x * n - y * m) * b = x * n * b - y * b * m := by
      rw [Int.sub_mul]
      simp only [Int.mul_comm, Int.mul_left_comm, Int.mul_assoc]
    omega
end Go.Proofs.YtcfknhboicomjaaGreatDoor.Fy
