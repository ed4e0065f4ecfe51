/- Plain: uscale at the boundaries of floats and at floats: exact. -/
import Derived.Test.YtcfknhboicomjaaGreatDoorTens
namespace Go.Proofs.YtcfknhboicomjaaGreatDoor.Fy

theorem good_apart {n m B L k x : Nat} (h : good n m B L k = true) (hm : 0 < m) (hx0 : 0 < x) (hxB : x < B) (t : Nat) (hL : L ≤ x * 2 ^ t) (y : Nat) (hne : x * n ≠ y * m) :
    m + y * m * 2 ^ (k + t) ≤ x * n * 2 ^ (k + t) ∨ m + x * n * 2 ^ (k + t) ≤ y * m * 2 ^ (k + t) := by
  unfold good at h
  obtain ⟨a, ha⟩ : ∃ a, (fy n m B 300 (n / m) 1 (n / m + 1) 1).1 = a := ⟨_, rfl⟩
  obtain ⟨b, hb⟩ : ∃ b, (fy n m B 300 (n / m) 1 (n / m + 1) 1).2.1 = b := ⟨_, rfl⟩
  obtain ⟨c, hc⟩ : ∃ c, (fy n m B 300 (n / m) 1 (n / m + 1) 1).2.2.1 = c := ⟨_, rfl⟩
  obtain ⟨d, hd⟩ : ∃ d, (fy n m B 300 (n / m) 1 (n / m + 1) 1).2.2.2 = d := ⟨_, rfl⟩
  simp only [ha, hb, hc, hd, Bool.and_eq_true, beq_iff_eq, decide_eq_true_eq] at h
  obtain ⟨⟨⟨⟨⟨⟨⟨h1, h2⟩, h3⟩, h4⟩, h5⟩, h6⟩, h7⟩, h8⟩ := h
  have e1 : (b : Int) * c - a * d = 1 := by
    have : ((b * c : Nat) : Int) = ((a * d + 1 : Nat) : Int) := by rw [h1]
    push_cast at this
    omega
  have i5 : (a : Int) * m < n * b := by exact_mod_cast h5
  have i6 : (n : Int) * d < c * m := by exact_mod_cast h6
  have hA := apart (a := a) (b := b) (c := c) (d := d) (n := n) (m := m) (B := B) (x := x) (y := y) e1 (by omega) (by omega) (by omega) (by omega) i5 i6 (by omega) (by omega)
  have hK : (2 : Nat) ^ (k + t) = 2 ^ k * 2 ^ t := Nat.pow_add ..
  obtain ⟨Kk, hKk⟩ : ∃ K, (2 : Nat) ^ k = K := ⟨_, rfl⟩
  obtain ⟨Kt, hKt⟩ : ∃ K, (2 : Nat) ^ t = K := ⟨_, rfl⟩
  rw [hKk, hKt] at hK
  rw [hKt] at hL
  rw [hKk] at h7 h8
  rw [hK]
  rcases hA with hA | hA
  · left
    -- (x n - y m) b ≥ x (n b - a m)
    have g1 : x * (n * b - a * m) + y * m * b ≤ x * n * b := by
      have e : ((n * b - a * m : Nat) : Int) = (n : Int) * b - a * m := by rw [Int.ofNat_sub (Nat.le_of_lt h5)]; push_cast; rfl
      have : ((x * (n * b - a * m) + y * m * b : Nat) : Int) ≤ ((x * n * b : Nat) : Int) := by
        push_cast [e]
        rw [Int.sub_mul] at hA
        omega
      exact_mod_cast this
    have g2 : m * b ≤ (x * (n * b - a * m)) * (Kk * Kt) := by
      refine Nat.le_trans h7 ?_
      have := Nat.mul_le_mul_right ((n * b - a * m) * Kk) hL
      calc L * (n * b - a * m) * Kk = L * ((n * b - a * m) * Kk) := Nat.mul_assoc ..
        _ ≤ x * Kt * ((n * b - a * m) * Kk) := this
        _ = _ := by simp only [Nat.mul_comm, Nat.mul_left_comm, Nat.mul_assoc]
    have g3 := Nat.mul_le_mul_right (Kk * Kt) g1
    rw [Nat.add_mul] at g3
    have g4 : (m + y * m * (Kk * Kt)) * b ≤ x * n * (Kk * Kt) * b := by
      have e1 : (m + y * m * (Kk * Kt)) * b = m * b + y * m * b * (Kk * Kt) := by rw [Nat.add_mul]; simp only [Nat.mul_comm, Nat.mul_left_comm, Nat.mul_assoc]
      have e2 : x * n * (Kk * Kt) * b = x * n * b * (Kk * Kt) := by simp only [Nat.mul_comm, Nat.mul_left_comm, Nat.mul_assoc]
      omega
    exact Nat.le_of_mul_le_mul_right g4 h2
  · right
    have g1 : x * (c * m - n * d) + x * n * d ≤ y * m * d := by
      have : ((x * (c * m - n * d) + x * n * d : Nat) : Int) ≤ ((y * m * d : Nat) : Int) := by
        rw [Int.sub_mul] at hA
        push_cast
        rw [Int.ofNat_sub (Nat.le_of_lt h6)]
        push_cast
        omega
      exact_mod_cast this
    have g2 : m * d ≤ (x * (c * m - n * d)) * (Kk * Kt) := by
      refine Nat.le_trans h8 ?_
      have := Nat.mul_le_mul_right ((c * m - n * d) * Kk) hL
      calc L * (c * m - n * d) * Kk = L * ((c * m - n * d) * Kk) := Nat.mul_assoc ..
        _ ≤ x * Kt * ((c * m - n * d) * Kk) := this
        _ = _ := by simp only [Nat.mul_comm, Nat.mul_left_comm, Nat.mul_assoc]
    have g3 := Nat.mul_le_mul_right (Kk * Kt) g1
    rw [Nat.add_mul] at g3
    have g4 : (m + x * n * (Kk * Kt)) * d ≤ y * m * (Kk * Kt) * d := by
      have e1 : (m + x * n * (Kk * Kt)) * d = m * d + x * n * d * (Kk * Kt) := by rw [Nat.add_mul]; simp only [Nat.mul_comm, Nat.mul_left_comm, Nat.mul_assoc]
      have e2 : y * m * (Kk * Kt) * d = y * m * d * (Kk * Kt) := by simp only [Nat.mul_comm, Nat.mul_left_comm, Nat.mul_assoc]
      omega
    exact Nat.le_of_mul_le_mul_right g4 h3

theorem chk_apart {n m B L k x : Nat} (h : chk n m B L k = true) (hm : 0 < m) (hx0 : 0 < x) (hxB : x < B) (t : Nat) (hL : L ≤ x * 2 ^ t) (y : Nat) (hne : x * n ≠ y * m) :
    m + y * m * 2 ^ (k + t) ≤ x * n * 2 ^ (k + t) ∨ m + x * n * 2 ^ (k + t) ≤ y * m * 2 ^ (k + t) := by
  unfold chk at h
  have hg : 0 < Nat.gcd n m := Nat.gcd_pos_of_pos_right n hm
  obtain ⟨g, hgd⟩ : ∃ g, Nat.gcd n m = g := ⟨_, rfl⟩
  rw [hgd] at h hg
  obtain ⟨n', hn'⟩ : ∃ n', n = g * n' := hgd ▸ Nat.gcd_dvd_left n m
  obtain ⟨m', hm'⟩ : ∃ m', m = g * m' := hgd ▸ Nat.gcd_dvd_right n m
  have q1 : n / g = n' := by rw [hn', Nat.mul_div_cancel_left _ hg]
  have q2 : m / g = m' := by rw [hm', Nat.mul_div_cancel_left _ hg]
  simp only [q1, q2, Bool.or_eq_true, decide_eq_true_eq] at h
  have hm0 : 0 < m' := by
    rcases Nat.eq_zero_or_pos m' with h0 | h0
    · subst h0; simp at hm'; omega
    · exact h0
  have e1 : x * n = x * n' * g := by rw [hn']; simp only [Nat.mul_comm, Nat.mul_left_comm, Nat.mul_assoc]
  have e2 : y * m = y * m' * g := by rw [hm']; simp only [Nat.mul_comm, Nat.mul_left_comm, Nat.mul_assoc]
  have hne' : x * n' ≠ y * m' := fun e => hne (by rw [e1, e2, e])
  have key : m' + y * m' * 2 ^ (k + t) ≤ x * n' * 2 ^ (k + t) ∨ m' + x * n' * 2 ^ (k + t) ≤ y * m' * 2 ^ (k + t) := by
    rcases h with h | h
    · have hK : m' ≤ 2 ^ (k + t) := Nat.le_trans h (Nat.pow_le_pow_right (by omega) (by omega))
      obtain ⟨K, hKd⟩ : ∃ K, (2 : Nat) ^ (k + t) = K := ⟨_, rfl⟩
      rw [hKd] at hK ⊢
      rcases Nat.lt_or_gt_of_ne hne' with hlt | hgt
      · right
        have := Nat.mul_le_mul_right K (show x * n' + 1 ≤ y * m' from hlt)
        rw [Nat.add_mul] at this
        omega
      · left
        have := Nat.mul_le_mul_right K (show y * m' + 1 ≤ x * n' from hgt)
        rw [Nat.add_mul] at this
        omega
    · exact good_apart h hm0 hx0 hxB t hL y hne'
  obtain ⟨K, hKd⟩ : ∃ K, (2 : Nat) ^ (k + t) = K := ⟨_, rfl⟩
  rw [hKd] at key ⊢
  rw [e1, e2, hm']
  rcases key with h | h
  · left
    have := Nat.mul_le_mul_right g h
    rw [Nat.add_mul] at this
    have f1 : y * m' * g * K = y * m' * K * g := by simp only [Nat.mul_comm, Nat.mul_left_comm, Nat.mul_assoc]
    have f2 : x * n' * g * K = x * n' * K * g := by simp only [Nat.mul_comm, Nat.mul_left_comm, Nat.mul_assoc]
    rw [f1, f2, Nat.mul_comm g m']
    omega
  · right
    have := Nat.mul_le_mul_right g h
    rw [Nat.add_mul] at this
    have f1 : y * m' * g * K = y * m' * K * g := by simp only [Nat.mul_comm, Nat.mul_left_comm, Nat.mul_assoc]
    have f2 : x * n' * g * K = x * n' * K * g := by simp only [Nat.mul_comm, Nat.mul_left_comm, Nat.mul_assoc]
    rw [f1, f2, Nat.mul_comm g m']
    omega

theorem unr_scale {a b c : Nat} (hc : 0 < c) : unr (a * c) (b * c) = unr a b := by
  unfold unr
  rw [Nat.mul_div_mul_right a b hc, Nat.mul_mod_mul_right]
  by_cases h : a % b = 0
  · simp [h]
  · have : a % b * c ≠ 0 := Nat.mul_ne_zero h (by omega)
    simp [h, this]
theorem up_pos (a b : Int) : 0 < up a b := Nat.mul_pos (Nat.pow_pos (by omega)) (Nat.pow_pos (by omega))

/-- uscale at x = M 2^(z-2), where 2^E 10^p is the scale of M. -/
theorem usc_at_near (E p : Int) (z M s : Nat) (hz : 2 ≤ z) (hp0 : -348 ≤ p) (hp1 : p ≤ 347) (hs : (s : Int) = -(E - z + l2 p + 3)) (hx : M * 2 ^ (z - 2) < 2 ^ 64) :
    usc (M * 2 ^ (z - 2)) (rowOf p).1 (rowOf p).2 s = unr (M * up E p) (up (-E) (-p)) ∨
    ∃ q, usc (M * 2 ^ (z - 2)) (rowOf p).1 (rowOf p).2 s = q ∧ M * up E p ≠ q * up (-E) (-p) ∧ M * up E p * 2 ^ (63 + s) < q * up (-E) (-p) * 2 ^ (63 + s) + up (-E) (-p) ∧
      q * up (-E) (-p) * 2 ^ (63 + s) < M * up E p * 2 ^ (63 + s) + up (-E) (-p) := by
  have hr := row_ok p hp0 hp1
  simp only [rowOk, Bool.and_eq_true, decide_eq_true_eq] at hr
  obtain ⟨⟨⟨⟨⟨⟨r1, r2⟩, r3⟩, r4⟩, r5⟩, _⟩, _⟩ := hr
  obtain ⟨n, hn⟩ : ∃ n, up E p = n := ⟨_, rfl⟩
  obtain ⟨m, hm⟩ : ∃ m, up (-E) (-p) = m := ⟨_, rfl⟩
  obtain ⟨n0, hn0⟩ : ∃ n, up (127 - l2 p) p = n := ⟨_, rfl⟩
  obtain ⟨m0, hm0⟩ : ∃ m, up (l2 p - 127) (-p) = m := ⟨_, rfl⟩
  have hmp : 0 < m := hm ▸ up_pos _ _
  have hm0p : 0 < m0 := hm0 ▸ up_pos _ _
  obtain ⟨P, hP⟩ : ∃ P, (rowOf p).1 * 2 ^ 64 - (rowOf p).2 = P := ⟨_, rfl⟩
  rw [hP, hn0, hm0] at r4 r5
  have key : n * 2 ^ (128 + s) * m0 = n0 * (m * 2 ^ (z - 2)) := by
    rw [← hn, ← hm, ← hn0, ← hm0]
    unfold up
    have e2 : (2 : Nat) ^ E.toNat * 2 ^ (128 + s) * 2 ^ (l2 p - 127).toNat = 2 ^ (127 - l2 p).toNat * 2 ^ (-E).toNat * 2 ^ (z - 2) := by
      rw [← Nat.pow_add, ← Nat.pow_add, ← Nat.pow_add, ← Nat.pow_add]
      congr 1
      omega
    obtain ⟨a1, h1⟩ : ∃ a, (2 : Nat) ^ E.toNat = a := ⟨_, rfl⟩
    obtain ⟨a2, h2⟩ : ∃ a, (2 : Nat) ^ (128 + s) = a := ⟨_, rfl⟩
    obtain ⟨a3, h3⟩ : ∃ a, (2 : Nat) ^ (l2 p - 127).toNat = a := ⟨_, rfl⟩
    obtain ⟨a4, h4⟩ : ∃ a, (2 : Nat) ^ (127 - l2 p).toNat = a := ⟨_, rfl⟩
    obtain ⟨a5, h5⟩ : ∃ a, (2 : Nat) ^ (-E).toNat = a := ⟨_, rfl⟩
    obtain ⟨a6, h6⟩ : ∃ a, (2 : Nat) ^ (z - 2) = a := ⟨_, rfl⟩
    obtain ⟨t1, h7⟩ : ∃ a, (10 : Nat) ^ p.toNat = a := ⟨_, rfl⟩
    obtain ⟨t2, h8⟩ : ∃ a, (10 : Nat) ^ (-p).toNat = a := ⟨_, rfl⟩
    rw [h1, h2, h3, h4, h5, h6] at e2
    rw [h1, h2, h3, h4, h5, h6, h7, h8]
    calc a1 * t1 * a2 * (a3 * t2) = (a1 * a2 * a3) * (t1 * t2) := by simp only [Nat.mul_comm, Nat.mul_left_comm, Nat.mul_assoc]
      _ = (a4 * a5 * a6) * (t1 * t2) := by rw [e2]
      _ = _ := by simp only [Nat.mul_comm, Nat.mul_left_comm, Nat.mul_assoc]
  have hZ : 0 < 2 ^ (z - 2) := Nat.pow_pos (by omega)
  obtain ⟨Z, hZd⟩ : ∃ Z, (2 : Nat) ^ (z - 2) = Z := ⟨_, rfl⟩
  rw [hn, hm]
  rw [hZd] at hx hZ key ⊢
  have f1 : n * 2 ^ (128 + s) ≤ P * (m * Z) := by
    apply Nat.le_of_mul_le_mul_right _ hm0p
    rw [key]
    have := Nat.mul_le_mul_right (m * Z) r4
    calc n0 * (m * Z) ≤ P * m0 * (m * Z) := this
      _ = _ := by simp only [Nat.mul_comm, Nat.mul_left_comm, Nat.mul_assoc]
  have f2 : P * (m * Z) < n * 2 ^ (128 + s) + m * Z := by
    apply Nat.lt_of_mul_lt_mul_right (a := m0)
    rw [Nat.add_mul, key]
    have := Nat.mul_lt_mul_of_pos_right r5 (Nat.mul_pos hmp hZ)
    rw [Nat.add_mul] at this
    calc P * (m * Z) * m0 = P * m0 * (m * Z) := by simp only [Nat.mul_comm, Nat.mul_left_comm, Nat.mul_assoc]
      _ < n0 * (m * Z) + m0 * (m * Z) := this
      _ = _ := by rw [Nat.mul_comm m0]
  have e1 : M * Z * n = M * n * Z := by simp only [Nat.mul_comm, Nat.mul_left_comm, Nat.mul_assoc]
  rcases usc_near (M * Z) (rowOf p).1 (rowOf p).2 s n (m * Z) hx r1 r2 (Nat.mul_pos hmp hZ) r3 (hP ▸ f1) (hP ▸ f2) with h | ⟨q, hq, hne, g1, g2⟩
  · left
    rw [h, e1, unr_scale hZ]
  · refine .inr ⟨q, hq, fun e => hne (by rw [e1, e, Nat.mul_assoc]), ?_, ?_⟩
    · rw [e1] at g1
      apply Nat.lt_of_mul_lt_mul_right (a := Z)
      rw [Nat.add_mul]
      calc M * n * 2 ^ (63 + s) * Z = M * n * Z * 2 ^ (63 + s) := Nat.mul_right_comm ..
        _ < q * (m * Z) * 2 ^ (63 + s) + m * Z := g1
        _ = _ := by rw [← Nat.mul_assoc q, Nat.mul_right_comm (q * m)]
    · rw [e1] at g2
      apply Nat.lt_of_mul_lt_mul_right (a := Z)
      rw [Nat.add_mul]
      calc q * m * 2 ^ (63 + s) * Z = q * (m * Z) * 2 ^ (63 + s) := by rw [← Nat.mul_assoc q, Nat.mul_right_comm (q * m)]
        _ < M * n * Z * 2 ^ (63 + s) + m * Z := g2
        _ = _ := by rw [Nat.mul_right_comm (M * n)]

theorem usc_at (E p : Int) (z M s : Nat) (hz : 2 ≤ z) (hp0 : -348 ≤ p) (hp1 : p ≤ 347) (hs : (s : Int) = -(E - z + l2 p + 3)) (hx : M * 2 ^ (z - 2) < 2 ^ 64)
    (ha : ∀ y, M * up E p ≠ y * up (-E) (-p) → up (-E) (-p) + y * up (-E) (-p) * 2 ^ (63 + s) ≤ M * up E p * 2 ^ (63 + s) ∨ up (-E) (-p) + M * up E p * 2 ^ (63 + s) ≤ y * up (-E) (-p) * 2 ^ (63 + s)) :
    usc (M * 2 ^ (z - 2)) (rowOf p).1 (rowOf p).2 s = unr (M * up E p) (up (-E) (-p)) := by
  rcases usc_at_near E p z M s hz hp0 hp1 hs hx with h | ⟨q, _, hne, g1, g2⟩
  · exact h
  · exfalso
    rcases ha q hne with h | h <;> omega
end Go.Proofs.YtcfknhboicomjaaGreatDoor.Fy
