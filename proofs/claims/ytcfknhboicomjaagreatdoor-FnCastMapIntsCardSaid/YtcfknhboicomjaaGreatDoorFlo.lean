/- Plain facts on floats: one between -2^61 and 2^61, and the float32 nearest to it, have a whole part between -2^61 and 2^61. -/
import Derived.Laws.FloatArith
namespace Go.Proofs.YtcfknhboicomjaaGreatDoor.Fl
open Ieee

/-- Of mag * 2 ^ place: it is below 2 ^ 61. -/
def Small (m : Nat) (i : Int) : Prop := m * 2 ^ i.toNat < 2 ^ (61 + (-i).toNat)

theorem small_of_lt (s : Bool) (m : Nat) (i : Int) (h : m <<< (i - min i 9).toNat < 4503599627370496 <<< (9 - min i 9).toNat) : Small m i := by
  unfold Small
  rw [Nat.shiftLeft_eq, Nat.shiftLeft_eq] at h
  have e52 : (4503599627370496 : Nat) = 2 ^ 52 := by decide
  rw [e52, ← Nat.pow_add] at h
  rcases Int.le_total 9 i with h9 | h9
  · have h1 : min i 9 = 9 := by omega
    rw [h1] at h
    have h2 : i.toNat = (i - 9).toNat + 9 := by omega
    have h3 : (-i).toNat = 0 := by omega
    have h4 : (9 - 9 : Int).toNat = 0 := rfl
    rw [h4] at h
    rw [h2, h3, Nat.pow_add, ← Nat.mul_assoc]
    have : (2 : Nat) ^ (61 + 0) = 2 ^ (52 + 0) * 2 ^ 9 := by decide
    rw [this]
    exact Nat.mul_lt_mul_of_pos_right h (by decide)
  · have h1 : min i 9 = i := by omega
    rw [h1] at h
    have h0 : (i - i).toNat = 0 := by omega
    rw [h0, Nat.pow_zero, Nat.mul_one] at h
    rcases Int.le_total 0 i with hi | hi
    · have h3 : (-i).toNat = 0 := by omega
      rw [h3]
      have h5 : 61 = (52 + (9 - i).toNat) + i.toNat := by omega
      rw [Nat.add_zero, h5, Nat.pow_add 2 _ i.toNat]
      exact Nat.mul_lt_mul_of_pos_right h (Nat.pow_pos (by decide))
    · have h3 : i.toNat = 0 := by omega
      have h5 : 52 + (9 - i).toNat = 61 + (-i).toNat := by omega
      rw [h3, ← h5, Nat.pow_zero, Nat.mul_one]
      exact h

theorem signed_lt {s : Bool} {a k : Nat} {c : Nat} (h1 : -(c : Int) < signed s a k) (h2 : signed s a k < (c : Int)) : a <<< k < c := by
  unfold signed at h1 h2
  generalize a <<< k = x at h1 h2 ⊢
  cases s <;> simp at h1 h2 <;> omega

/-- A float above -2^61 and below 2^61 is a small number. -/
theorem small_of_order (F : Nat) (h1 : (FloatKind.f64.format.order F 14105274032924393472 == some .gt) = true) (h2 : (FloatKind.f64.format.order F 4881901996069617664 == some .lt) = true) :
    ∃ s m i, double.read F = .number s m i ∧ Small m i := by
  have c1 : double.read 14105274032924393472 = .number true 4503599627370496 9 := by decide +kernel
  have c2 : double.read 4881901996069617664 = .number false 4503599627370496 9 := by decide +kernel
  have h1 : (double.read F).order (double.read 14105274032924393472) = some .gt := eq_of_beq h1
  have h2 : (double.read F).order (double.read 4881901996069617664) = some .lt := eq_of_beq h2
  rw [c1] at h1
  rw [c2] at h2
  cases hd : double.read F with
  | nan s t => rw [hd] at h1; cases h1
  | infinity s => rw [hd] at h1 h2; cases s <;> simp [Datum.order] at h1 h2
  | number s m i =>
    rw [hd] at h1 h2
    refine ⟨s, m, i, rfl, small_of_lt s m i ?_⟩
    simp only [Datum.order, Option.some.injEq] at h1 h2
    rw [Int.compare_eq_gt] at h1
    rw [Int.compare_eq_lt] at h2
    refine signed_lt (s := s) ?_ ?_
    · simpa [signed] using h1
    · simpa [signed] using h2

theorem div_pow_lt {m a b : Nat} (h : m < 2 ^ (a + b)) : m / 2 ^ b < 2 ^ a := by
  rw [Nat.div_lt_iff_lt_mul (Nat.pow_pos (by decide)), ← Nat.pow_add]
  exact h

/-- The whole part of a small number. -/
theorem toInt_small (s : Bool) (m : Nat) (i : Int) (h : Small m i) : ∃ n, (Datum.number s m i).toInt .zero = some n ∧ -2305843009213693952 < n ∧ n < 2305843009213693952 := by
  have hlow : Toward.zero.cut s (m <<< i.toNat) (-i).toNat < 2305843009213693952 := by
    unfold Toward.cut
    unfold Small at h
    have e61 : (2305843009213693952 : Nat) = 2 ^ 61 := by decide
    rw [e61]
    simp only [Bool.toNat_false, Nat.add_zero]
    rw [Nat.shiftLeft_eq]
    generalize hn : m * 2 ^ i.toNat = n at h
    rw [Nat.shiftLeft_eq, Nat.one_mul]
    rcases Nat.le_total (-i).toNat (n.log2 + 2) with hd | hd
    · rw [Nat.min_eq_left hd]
      exact div_pow_lt h
    · rw [Nat.min_eq_right hd]
      have : n < 2 ^ (n.log2 + 2) := Nat.lt_of_lt_of_le (Nat.lt_log2_self) (Nat.pow_le_pow_right (by decide) (by omega))
      rw [Nat.div_eq_of_lt this]
      exact Nat.pow_pos (by decide)
  unfold Datum.toInt Datum.integral
  refine ⟨_, rfl, ?_, ?_⟩ <;> unfold signed <;> cases s <;> simp <;> omega

theorem toInt_le (s : Bool) (m : Nat) (i : Int) (c : Nat) (h : m * 2 ^ i.toNat ≤ c) : ∃ n, (Datum.number s m i).toInt .zero = some n ∧ -(c : Int) ≤ n ∧ n ≤ c := by
  have hlow : Toward.zero.cut s (m <<< i.toNat) (-i).toNat ≤ c := by
    unfold Toward.cut
    simp only [Bool.toNat_false, Nat.add_zero]
    rw [Nat.shiftLeft_eq]
    exact Nat.le_trans (Nat.div_le_self _ _) h
  unfold Datum.toInt Datum.integral
  refine ⟨_, rfl, ?_, ?_⟩ <;> unfold signed <;> cases s <;> simp <;> omega

/-- A float32 whose rung is at most that of 2^61 has a whole part in it. -/
theorem toInt_single (neg : Bool) (r : Nat) (h : r ≤ 188 * 8388608) : (∃ s m i, single.read (single.word neg r) = .number s m i) ∧ ∃ n, (single.read (single.word neg r)).toInt .zero = some n ∧ -2305843009213693952 ≤ n ∧ n ≤ 2305843009213693952 := by
  have hsw : single.signWeight = 2147483648 := by decide
  have hbi : single.binade = 8388608 := by decide
  have hin : single.infRung = 2139095040 := by decide
  have hlp : single.leastPlace = -149 := by decide
  have hm : single.word neg r % single.signWeight = r := by
    unfold Format.word
    rw [hsw]
    cases neg <;> simp <;> omega
  unfold Format.read
  simp only [hm, hbi, hin, hlp]
  split
  · exact ⟨⟨_, _, _, rfl⟩, toInt_le _ _ _ 2305843009213693952 (by
      rw [show (-149 : Int).toNat = 0 from rfl, Nat.pow_zero]; omega)⟩
  · rename_i hb
    split
    · refine ⟨⟨_, _, _, rfl⟩, toInt_le _ _ _ 2305843009213693952 ?_⟩
      rcases Nat.lt_or_ge r (188 * 8388608) with h1 | h1
      · have h2 : r / 8388608 ≤ 187 := by omega
        have h3 : ((-149 : Int) + ((r / 8388608 - 1 : Nat) : Int)).toNat ≤ 37 := by omega
        have h4 : (2 : Nat) ^ ((-149 : Int) + ((r / 8388608 - 1 : Nat) : Int)).toNat ≤ 2 ^ 37 := Nat.pow_le_pow_right (by decide) h3
        have h5 : 8388608 + r % 8388608 ≤ 16777216 := by omega
        exact Nat.le_trans (Nat.mul_le_mul h5 h4) (by decide)
      · have h2 : r = 188 * 8388608 := by omega
        subst h2
        decide
    · rename_i hb2
      omega

/-- The float32 nearest to a small number. -/
theorem nearest_small (s : Bool) (m : Nat) (i : Int) (h : Small m i) (hi : -1074 ≤ i) : ∃ neg r, single.write (.number s m i) = single.word neg r ∧ r ≤ 188 * 8388608 := by
  have hbi : single.binade = 8388608 := by decide
  have hin : single.infRung = 2139095040 := by decide
  have hlp : single.leastPlace = -149 := by decide
  have hfb : single.fractionBits = 23 := rfl
  unfold Format.write Format.nearest
  dsimp only
  split
  · exact ⟨_, 0, rfl, by omega⟩
  · rename_i hm0
    refine ⟨s, _, rfl, ?_⟩
    rw [hbi, hin, hlp, hfb]
    have hlog : (m.log2 : Int) + i < 61 := by
      unfold Small at h
      have h1 : 2 ^ m.log2 ≤ m := Nat.log2_self_le hm0
      have h2 : 2 ^ (m.log2 + i.toNat) < 2 ^ (61 + (-i).toNat) := by
        rw [Nat.pow_add]
        exact Nat.lt_of_le_of_lt (Nat.mul_le_mul_right _ h1) h
      have h3 := (Nat.pow_lt_pow_iff_right (by decide : 1 < 2)).1 h2
      omega
    generalize hlast : max (i + (m.log2 : Int) - ((23 : Nat) : Int)) (-149) = last
    have hl37 : last ≤ 37 := by omega
    have hl0 : -149 ≤ last := by omega
    have hkept : Toward.even.cut s (m <<< (i - last).toNat) (last - i).toNat ≤ 16777216 := by
      have hm1 : m < 2 ^ (m.log2 + 1) := Nat.lt_log2_self
      unfold Toward.cut
      dsimp only
      rcases Int.le_total last i with hc | hc
      · have e1 : (last - i).toNat = 0 := by omega
        rw [e1, Nat.zero_min]
        have e2 : m <<< (i - last).toNat < 16777216 := by
          rw [Nat.shiftLeft_eq]
          have h5 : m * 2 ^ (i - last).toNat < 2 ^ (m.log2 + 1) * 2 ^ (i - last).toNat := Nat.mul_lt_mul_of_pos_right hm1 (Nat.pow_pos (by decide))
          rw [← Nat.pow_add] at h5
          have h6 : (2 : Nat) ^ (m.log2 + 1 + (i - last).toNat) ≤ 2 ^ 24 := Nat.pow_le_pow_right (by decide) (by omega)
          exact Nat.lt_of_lt_of_le h5 h6
        generalize m <<< (i - last).toNat = n at e2
        simp [Nat.mod_one]
        omega
      · have e1 : (i - last).toNat = 0 := by omega
        rw [e1, Nat.shiftLeft_zero, Nat.shiftLeft_eq, Nat.one_mul]
        have e2 : m / 2 ^ min (last - i).toNat (m.log2 + 2) < 16777216 := by
          rcases Nat.le_total (last - i).toNat (m.log2 + 2) with hd | hd
          · rw [Nat.min_eq_left hd]
            have : m < 2 ^ (24 + (last - i).toNat) := Nat.lt_of_lt_of_le hm1 (Nat.pow_le_pow_right (by decide) (by omega))
            exact div_pow_lt this
          · rw [Nat.min_eq_right hd]
            have : m < 2 ^ (m.log2 + 2) := Nat.lt_of_lt_of_le hm1 (Nat.pow_le_pow_right (by decide) (by omega))
            rw [Nat.div_eq_of_lt this]
            decide
        have e3 : ∀ b : Bool, b.toNat ≤ 1 := fun b => by cases b <;> decide
        exact Nat.le_trans (Nat.add_le_add_left (e3 _) _) (by omega)
    have h7 : (last - (-149)).toNat ≤ 186 := by omega
    generalize (last - (-149)).toNat = q at h7
    generalize Toward.even.cut s (m <<< (i - last).toNat) (last - i).toNat = c at hkept
    exact Nat.le_trans (Nat.min_le_left _ _) (by omega)
theorem read_place (F : Nat) {s : Bool} {m : Nat} {i : Int} (h : double.read F = .number s m i) : -1074 ≤ i := by
  have hlp : double.leastPlace = -1074 := by decide
  unfold Format.read at h
  simp only [hlp] at h
  split at h
  · simp at h; omega
  · split at h
    · simp at h; omega
    · split at h <;> cases h
/-- A float of which every int64 type has the whole part. -/
def FloatOk (F : Nat) : Prop := ∃ s m i, double.read F = .number s m i ∧ Small m i
theorem floatOk_zero : FloatOk 0 := by
  have h : double.read 0 = .number false 0 (-1074) := by decide +kernel
  exact ⟨_, _, _, h, by unfold Small; rw [Nat.zero_mul]; exact Nat.pow_pos (by decide)⟩
theorem f64_int {F : Nat} (h : FloatOk F) : ∃ n, floatToIntVal .f64 F .i64 = some n := by
  obtain ⟨s, m, i, hr, hs⟩ := h
  obtain ⟨n, hn, h0, h1⟩ := toInt_small s m i hs
  refine ⟨n, ?_⟩
  have emin : IntKind.i64.min = -9223372036854775808 := by decide
  have emax : IntKind.i64.max = 9223372036854775807 := by decide
  have hd : FloatKind.f64.decode F = .number s m i := hr
  unfold floatToIntVal
  rw [hd, hn, emin, emax]
  dsimp only
  rw [if_pos ⟨by omega, by omega⟩]
theorem f64_f32 {F : Nat} (h : FloatOk F) : ∃ r n, floatToFloatBits .f64 F .f32 = some r ∧ floatToIntVal .f32 r .i64 = some n := by
  obtain ⟨s, m, i, hr, hs⟩ := h
  obtain ⟨neg, r, hw, hle⟩ := nearest_small s m i hs (read_place F hr)
  obtain ⟨⟨s', m', i', hq⟩, n, hn, h0, h1⟩ := toInt_single neg r hle
  refine ⟨single.word neg r, n, ?_, ?_⟩
  · have hd : FloatKind.f64.decode F = .number s m i := hr
    have he : FloatKind.f32.encode (.number s m i) = single.word neg r := hw
    have hq' : FloatKind.f32.decode (single.word neg r) = .number s' m' i' := hq
    unfold floatToFloatBits
    rw [if_neg (by decide), hd]
    dsimp only
    rw [he, hq']
    rfl
  · have emin : IntKind.i64.min = -9223372036854775808 := by decide
    have emax : IntKind.i64.max = 9223372036854775807 := by decide
    have hn' : (FloatKind.f32.decode (single.word neg r)).toInt .zero = some n := hn
    unfold floatToIntVal
    rw [hn', emin, emax]
    dsimp only
    rw [if_pos ⟨by omega, by omega⟩]
end Go.Proofs.YtcfknhboicomjaaGreatDoor.Fl
