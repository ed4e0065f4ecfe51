/- Plain facts on floats: small whole numbers are exact; nothing here becomes a NaN. -/
import Derived.Laws.FloatArith
import Derived.Laws.NewFold
import Derived.Deep.Draws
namespace Go.Proofs.YtjkmidohcidkiaaDoor.Fl
open Ieee

def ok (b : Nat) : Prop := ∀ s t, double.read b ≠ .nan s t

theorem read_word (neg : Bool) (r : Nat) (h : r ≤ double.infRung) : ∀ s t, double.read (double.word neg r) ≠ .nan s t := by
  have hi : double.infRung < double.signWeight := double.infRung_lt
  have hm : double.word neg r % double.signWeight = r := by
    unfold Format.word
    split
    · rw [Nat.add_mod_left, Nat.mod_eq_of_lt (by omega)]
    · exact Nat.mod_eq_of_lt (by omega)
  intro s t he
  unfold Format.read at he
  simp only [hm] at he
  split at he
  · cases he
  · split at he
    · cases he
    · split at he
      · cases he
      · omega
theorem write_ok (d : Datum) (h : ∀ s t, d ≠ .nan s t) : ok (double.write d) := by
  cases d with
  | number neg mag place =>
    unfold Format.write Format.nearest
    dsimp only
    split
    · exact read_word _ _ (Nat.zero_le _)
    · exact read_word _ _ (Nat.min_le_right _ _)
  | infinity neg => exact read_word _ _ (Nat.le_refl _)
  | nan s t => exact absurd rfl (h s t)

theorem mul_ok (b : Nat) (hb : ok b) : ∃ r, floatBits .mul .f64 b 4621819117588971520 = some r ∧ ok r := by
  have h10 : double.read 4621819117588971520 = .number false 5629499534213120 (-49) := by decide +kernel
  show ∃ r, double.mul b _ = some r ∧ ok r
  unfold Format.mul
  rw [h10]
  cases hd : double.read b with
  | number s m e => exact ⟨_, rfl, write_ok _ (by intro s t h; cases h)⟩
  | infinity s => exact ⟨_, rfl, write_ok _ (by intro s t h; cases h)⟩
  | nan s t => exact absurd hd (hb s t)

/-- 10 to the k, as floats come to it one multiplication behind the other. -/
def p10 : Nat → Nat
  | 0 => 4607182418800017408
  | k + 1 => (floatBits .mul .f64 (p10 k) 4621819117588971520).getD 0
theorem p10_ok : ∀ k, ok (p10 k)
  | 0 => by
    have : double.read 4607182418800017408 = .number false 4503599627370496 (-52) := by decide +kernel
    intro s t h
    rw [show p10 0 = 4607182418800017408 from rfl, this] at h
    cases h
  | k + 1 => by
    obtain ⟨r, hr, ho⟩ := mul_ok (p10 k) (p10_ok k)
    have : p10 (k + 1) = r := by show (floatBits .mul .f64 (p10 k) 4621819117588971520).getD 0 = r; rw [hr]; rfl
    rwa [this]
theorem p10_step (k : Nat) : floatBits .mul .f64 (p10 k) 4621819117588971520 = some (p10 (k + 1)) := by
  obtain ⟨r, hr, _⟩ := mul_ok (p10 k) (p10_ok k)
  show _ = some ((floatBits .mul .f64 (p10 k) 4621819117588971520).getD 0)
  rw [hr]; rfl

/-- b is the whole number N. -/
def isInt (b N : Nat) : Prop := ∃ mag place, double.read b = .number false mag place ∧ place ≤ 0 ∧ mag = N * 2 ^ (-place).toNat

theorem log2_mul_pow (N k : Nat) (h : N ≠ 0) : (N * 2 ^ k).log2 = N.log2 + k := by
  have h2 : N * 2 ^ k ≠ 0 := Nat.mul_ne_zero h (Nat.ne_of_gt (Nat.pow_pos (by omega)))
  rw [Nat.log2_eq_iff h2]
  have h3 := (Nat.log2_eq_iff h).1 rfl
  constructor
  · rw [Nat.pow_add]; exact Nat.mul_le_mul_right _ h3.1
  · rw [show N.log2 + k + 1 = (N.log2 + 1) + k by omega, Nat.pow_add]; exact Nat.mul_lt_mul_of_pos_right h3.2 (Nat.pow_pos (by omega))

theorem cut_exact (neg : Bool) (n drop q : Nat) (h : n = q * 2 ^ drop) (hd : drop ≤ n.log2 + 2) : Toward.even.cut neg n drop = q := by
  have hp : 0 < 2 ^ drop := Nat.pow_pos (by omega)
  unfold Toward.cut
  rw [Nat.min_eq_left hd]
  simp only [Nat.one_shiftLeft]
  have h1 : n / 2 ^ drop = q := by rw [h]; exact Nat.mul_div_cancel _ hp
  have h2 : n % 2 ^ drop = 0 := by rw [h]; exact Nat.mul_mod_left _ _
  rw [h1, h2]
  have h3 : (decide (2 ^ drop < 2 * 0) || (2 ^ drop == 2 * 0 && q % 2 == 1)) = false := by
    have a : decide (2 ^ drop < 2 * 0) = false := by simp
    have b : (2 ^ drop == 2 * 0) = false := by simp
    rw [a, b]; rfl
  rw [h3]; simp

theorem read_rung (L K : Nat) (hL : L ≤ 52) (h1 : 4503599627370496 ≤ K) (h2 : K < 9007199254740992) :
    double.read (double.word false (min ((L + 1022) * double.binade + K) double.infRung)) = .number false K ((L : Int) - 52) := by
  have hb : double.binade = 4503599627370496 := rfl
  have hi : double.infRung = 9218868437227405312 := rfl
  have hs : double.signWeight = 9223372036854775808 := rfl
  have hl : double.leastPlace = -1074 := rfl
  rw [hb, hi, Nat.min_eq_left (by omega)]
  rw [show double.word false ((L + 1022) * 4503599627370496 + K) = (L + 1022) * 4503599627370496 + K from if_neg Bool.false_ne_true]
  obtain ⟨r, hr⟩ : ∃ r, (L + 1022) * 4503599627370496 + K = (L + 1023) * 4503599627370496 + r ∧ r < 4503599627370496 ∧ K = 4503599627370496 + r := ⟨K - 4503599627370496, by omega, by omega, by omega⟩
  obtain ⟨hr, hr2, hr3⟩ := hr
  rw [hr]
  unfold Format.read
  rw [hs, hb, hi, hl]
  have e1 : ((L + 1023) * 4503599627370496 + r) / 9223372036854775808 = 0 := by omega
  have e2 : ((L + 1023) * 4503599627370496 + r) % 9223372036854775808 = (L + 1023) * 4503599627370496 + r := by omega
  have e3 : ((L + 1023) * 4503599627370496 + r) / 4503599627370496 = L + 1023 := by omega
  have e4 : ((L + 1023) * 4503599627370496 + r) % 4503599627370496 = r := by omega
  simp only [e1, e2, e3, e4]
  have n1 : ¬ (L + 1023) * 4503599627370496 + r < 4503599627370496 := by omega
  have n2 : (L + 1023) * 4503599627370496 + r < 9218868437227405312 := by omega
  have n3 : (-1074 : Int) + ((L + 1023 - 1 : Nat) : Int) = (L : Int) - 52 := by omega
  simp only [if_neg n1, if_pos n2, n3, hr3]
  rfl

theorem exact (N mag : Nat) (place : Int) (h0 : 0 < N) (h1 : N < 2 ^ 53) (hp : place ≤ 0) (hm : mag = N * 2 ^ (-place).toNat) :
    double.read (double.nearest false mag place) = .number false (N * 2 ^ (52 - N.log2)) ((N.log2 : Int) - 52) := by
  have hL : N.log2 ≤ 52 := by
    have := (Nat.log2_lt (by omega : N ≠ 0)).2 h1
    omega
  have hlog := log2_mul_pow N (-place).toNat (by omega)
  have hmag : mag ≠ 0 := by rw [hm]; exact Nat.mul_ne_zero (by omega) (Nat.ne_of_gt (Nat.pow_pos (by omega)))
  have h3 := (Nat.log2_eq_iff (by omega : N ≠ 0)).1 rfl
  have k1 : 4503599627370496 ≤ N * 2 ^ (52 - N.log2) := by
    have : 2 ^ N.log2 * 2 ^ (52 - N.log2) ≤ N * 2 ^ (52 - N.log2) := Nat.mul_le_mul_right _ h3.1
    rw [← Nat.pow_add, show N.log2 + (52 - N.log2) = 52 by omega] at this
    exact this
  have k2 : N * 2 ^ (52 - N.log2) < 9007199254740992 := by
    have : N * 2 ^ (52 - N.log2) < 2 ^ (N.log2 + 1) * 2 ^ (52 - N.log2) := Nat.mul_lt_mul_of_pos_right h3.2 (Nat.pow_pos (by omega))
    rw [← Nat.pow_add, show N.log2 + 1 + (52 - N.log2) = 53 by omega] at this
    exact this
  unfold Format.nearest
  rw [if_neg hmag]
  have el : max (place + (mag.log2 : Int) - (double.fractionBits : Int)) double.leastPlace = (N.log2 : Int) - 52 := by
    have hl : double.leastPlace = -1074 := rfl
    have hf : (double.fractionBits : Int) = 52 := rfl
    rw [hm, hlog, hl, hf]
    omega
  simp only [el]
  have hl : double.leastPlace = -1074 := rfl
  have e5 : ((N.log2 : Int) - 52 - double.leastPlace).toNat = N.log2 + 1022 := by rw [hl]; omega
  rw [e5]
  have ek : Toward.even.cut false (mag <<< (place - ((N.log2 : Int) - 52)).toNat) (((N.log2 : Int) - 52) - place).toNat = N * 2 ^ (52 - N.log2) := by
    rw [Nat.shiftLeft_eq]
    by_cases hc : place < (N.log2 : Int) - 52
    · rw [show (place - ((N.log2 : Int) - 52)).toNat = 0 by omega, Nat.pow_zero, Nat.mul_one]
      refine cut_exact _ _ _ _ ?_ ?_
      · rw [hm, Nat.mul_assoc, ← Nat.pow_add]; congr 2; omega
      · rw [hm, hlog]; omega
    · rw [show (((N.log2 : Int) - 52) - place).toNat = 0 by omega]
      refine cut_exact _ _ _ _ ?_ (by omega)
      rw [hm, Nat.mul_assoc, ← Nat.pow_add, Nat.pow_zero, Nat.mul_one]; congr 2; omega
  rw [ek]
  exact read_rung _ _ hL k1 k2

theorem exact_isInt (N mag : Nat) (place : Int) (h0 : 0 < N) (h1 : N < 2 ^ 53) (hp : place ≤ 0) (hm : mag = N * 2 ^ (-place).toNat) : isInt (double.nearest false mag place) N := by
  have hL : N.log2 ≤ 52 := by
    have := (Nat.log2_lt (by omega : N ≠ 0)).2 h1
    omega
  exact ⟨_, _, exact N mag place h0 h1 hp hm, by omega, by congr 2; omega⟩

theorem ofInt_isInt (N : Nat) (h0 : 0 < N) (h1 : N < 2 ^ 53) : isInt (floatOfInt .f64 (N : Int)) N := by
  have : floatOfInt .f64 (N : Int) = double.nearest false N 0 := by
    unfold floatOfInt
    show double.nearest (decide ((N : Int) < 0)) (N : Int).natAbs 0 = _
    rw [Int.natAbs_natCast, decide_eq_false (by omega)]
  rw [this]
  exact exact_isInt N N 0 h0 h1 (by omega) (by simp)

theorem mul_isInt (a b M N : Nat) (ha : isInt a M) (hb : isInt b N) (hM : 0 < M) (hN : 0 < N) (h : M * N < 2 ^ 53) : ∃ r, floatBits .mul .f64 a b = some r ∧ isInt r (M * N) := by
  obtain ⟨m, p, h1, h2, h3⟩ := ha
  obtain ⟨n, q, g1, g2, g3⟩ := hb
  refine ⟨double.nearest false (m * n) (p + q), ?_, exact_isInt (M * N) _ _ (Nat.mul_pos hM hN) h (by omega) ?_⟩
  · show double.mul a b = _
    unfold Format.mul
    rw [h1, g1]
    rfl
  · rw [h3, g3, show (-(p + q)).toNat = (-p).toNat + (-q).toNat by omega, Nat.pow_add]
    simp [Nat.mul_left_comm, Nat.mul_assoc]

theorem toInt_isInt (b N : Nat) (h : isInt b N) (hN : N ≤ 18446744073709551615) : floatToIntVal .f64 b .u64 = some (N : Int) := by
  obtain ⟨m, p, h1, h2, h3⟩ := h
  unfold floatToIntVal
  have e : (FloatKind.f64.decode b).toInt .zero = some (N : Int) := by
    show (double.read b).toInt .zero = _
    rw [h1]
    unfold Datum.toInt Datum.integral
    have hp : p.toNat = 0 := by omega
    simp only [hp, Nat.shiftLeft_zero]
    have hc : Toward.zero.cut false m (-p).toNat = N := by
      unfold Toward.cut
      have hmin : min (-p).toNat (m.log2 + 2) = (-p).toNat ∨ N = 0 := by
        by_cases h0 : N = 0
        · exact .inr h0
        · left
          rw [h3, log2_mul_pow N _ h0]; omega
      rcases hmin with hmin | h0
      · rw [hmin]
        simp only [Nat.one_shiftLeft]
        rw [h3, Nat.mul_div_cancel _ (Nat.pow_pos (by omega))]
        rfl
      · subst h0
        have : m = 0 := by rw [h3]; simp
        subst this
        simp
    rw [hc]
    simp [signed]
  rw [e]
  have hmin : IntKind.u64.min = 0 := rfl
  have hmax : IntKind.u64.max = 18446744073709551615 := rfl
  simp only [hmin, hmax]
  rw [if_pos ⟨by omega, by omega⟩]

/-- The units of durations. -/
def units : List Nat := [1, 1000, 1000000, 1000000000, 60000000000, 3600000000000]
theorem div_units : ∀ u ∈ units, ∀ k ∈ List.range 13, u % 10 ^ k = 0 → double.div (floatOfInt .f64 (u : Int)) (p10 k) = some (floatOfInt .f64 ((u / 10 ^ k : Nat) : Int)) := by decide +kernel
theorem div_isInt (u k : Nat) (hu : u ∈ units) (hk : k ≤ 12) (h : u % 10 ^ k = 0) : ∃ r, floatBits .quo .f64 (floatOfInt .f64 (u : Int)) (p10 k) = some r ∧ isInt r (u / 10 ^ k) := by
  refine ⟨_, div_units u hu k (by simp; omega) h, ofInt_isInt _ ?_ ?_⟩
  · have h2 : u = 10 ^ k * (u / 10 ^ k) := by have := Nat.div_add_mod u (10 ^ k); omega
    rcases Nat.eq_zero_or_pos (u / 10 ^ k) with h0 | h0
    · rw [h0, Nat.mul_zero] at h2
      subst h2
      simp [units] at hu
    · exact h0
  · have : u / 10 ^ k ≤ u := Nat.div_le_self _ _
    have : u ≤ 3600000000000 := by simp [units] at hu; omega
    omega

section
variable {P : Program} (w : World)
theorem arith_any (op : BinOp) (ho : op = .mul ∨ op = .quo) (t : TypeId) (x y : Nat) : ∃ r n, (binOp op t (.float .f64 x) (.float .f64 y)).run P w = .ok (.float .f64 r) (w.drewN n) := by
  cases h : floatBits op .f64 x y with
  | some r => exact ⟨r, 0, run_float_arith w op t .f64 x y r h⟩
  | none =>
    rcases ho with rfl | rfl
    · have h' : FloatKind.f64.format.mul x y = none := h
      exact ⟨_, 1, by simp [binOp, Op.floatArith, h', Question.forced]; exact ⟨rfl, rfl⟩⟩
    · have h' : FloatKind.f64.format.div x y = none := h
      exact ⟨_, 1, by simp [binOp, Op.floatArith, h', Question.forced]; exact ⟨rfl, rfl⟩⟩
theorem toInt_any (src dst : TypeId) (b : Nat) (hs : (P.underlying src).isSome = true) (hd : P.underlying dst = some (.int .u64)) :
    ∃ v n, (0 ≤ v ∧ v ≤ 18446744073709551615) ∧ (convert src dst (.float .f64 b)).run P w = .ok (.int .u64 v) (w.drewN n) := by
  cases h : floatToIntVal .f64 b .u64 with
  | some v =>
    have hw := floatToIntVal_wf h
    simp [Lit.wf] at hw
    have hmin : IntKind.u64.min = 0 := rfl
    have hmax : IntKind.u64.max = 18446744073709551615 := rfl
    exact ⟨v, 0, by omega, run_convert_float_int w src dst .f64 .u64 b v hs hd h⟩
  | none =>
    obtain ⟨u, hs'⟩ := Option.isSome_iff_exists.1 hs
    have hr : ∀ z : Int, 0 ≤ IntKind.u64.wrap z ∧ IntKind.u64.wrap z ≤ 18446744073709551615 := fun z => by
      have : IntKind.u64.wrap z = z % 18446744073709551616 := by simp [IntKind.wrap, IntKind.bits, IntKind.signed]
      rw [this]; omega
    unfold floatToIntVal at h
    cases he : (FloatKind.f64.decode b).toInt .zero with
    | none =>
      refine ⟨_, 1, hr ((Question.floatToInt .f64 b .u64).cut (w.tape w.drawn (.floatToInt .f64 b .u64)) : Nat), ?_⟩
      cases u <;> simp [convert, run_underlying hs', run_underlying hd, Conv.floatToInt, he, Question.forced] <;> rfl
    | some m =>
      rw [he] at h
      simp only at h
      split at h
      · cases h
      · rename_i hb
        refine ⟨_, 1, hr ((Question.floatToInt .f64 b .u64).cut (w.tape w.drawn (.floatToInt .f64 b .u64)) : Nat), ?_⟩
        cases u <;> simp [convert, run_underlying hs', run_underlying hd, Conv.floatToInt, he, hb, Question.forced] <;> rfl
end
end Go.Proofs.YtjkmidohcidkiaaDoor.Fl
