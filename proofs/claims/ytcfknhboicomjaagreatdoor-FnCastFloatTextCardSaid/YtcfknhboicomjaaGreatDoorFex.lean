/- The walk of strconv's atof64exact: a small whole number, or its quotient by a small power of ten, between a float's boundaries, is that float. -/
import Derived.Test.YtcfknhboicomjaaGreatDoorFpf
import Derived.Test.YtcfknhboicomjaaGreatDoorFftoa
namespace Go.Proofs.YtcfknhboicomjaaGreatDoor.Ft
open Go.RowKit Fy Ieee

theorem read_rung (s : Bool) (K : Nat) (E : Int) (hE0 : -1074 ≤ E) (hE1 : E ≤ 971) (h1 : 4503599627370496 ≤ K) (h2 : K < 9007199254740992) : double.read (sbit s + rungOf K E) = .number s K E := by
  have hb : double.binade = 4503599627370496 := rfl
  have hi : double.infRung = 9218868437227405312 := rfl
  have hs : double.signWeight = 9223372036854775808 := rfl
  have hl : double.leastPlace = -1074 := rfl
  obtain ⟨r, rfl⟩ : ∃ r, K = 4503599627370496 + r := ⟨K - 4503599627370496, by omega⟩
  obtain ⟨k, hk⟩ : ∃ k : Nat, (k : Int) = E + 1075 := ⟨(E + 1075).toNat, by omega⟩
  have hr : rungOf (4503599627370496 + r) E = k * 4503599627370496 + r := by unfold rungOf; omega
  rw [hr]
  have e1 : ((sbit s + (k * 4503599627370496 + r)) / 9223372036854775808 % 2 == 1) = s := by
    cases s
    · have : (sbit false + (k * 4503599627370496 + r)) / 9223372036854775808 = 0 := by
        show (0 + (k * 4503599627370496 + r)) / 9223372036854775808 = 0
        omega
      rw [this]; rfl
    · have : (sbit true + (k * 4503599627370496 + r)) / 9223372036854775808 = 1 := by
        show (9223372036854775808 + (k * 4503599627370496 + r)) / 9223372036854775808 = 1
        omega
      rw [this]; rfl
  have e2 : (sbit s + (k * 4503599627370496 + r)) % 9223372036854775808 = k * 4503599627370496 + r := by
    cases s
    · show (0 + (k * 4503599627370496 + r)) % 9223372036854775808 = _
      omega
    · show (9223372036854775808 + (k * 4503599627370496 + r)) % 9223372036854775808 = _
      omega
  have e3 : (k * 4503599627370496 + r) / 4503599627370496 = k := by omega
  have e4 : (k * 4503599627370496 + r) % 4503599627370496 = r := by omega
  have n1 : ¬ k * 4503599627370496 + r < 4503599627370496 := by omega
  have n2 : k * 4503599627370496 + r < 9218868437227405312 := by omega
  have n3 : (-1074 : Int) + ((k - 1 : Nat) : Int) = E := by omega
  unfold Format.read
  simp only [hs, hb, hi, hl, e1, e2, e3, e4, if_neg n1, if_pos n2, n3]

theorem flip_sign (x : Nat) (h : x < 9223372036854775808) : Op.negFloat .f64 x = sbit true + x := by
  show x ^^^ 2 ^ 63 = _
  have e : sbit true + x = sbit true ||| x := (sbit_or true x h).symm
  rw [e]
  apply Nat.eq_of_testBit_eq
  intro i
  have ex : x.testBit 63 = false := Nat.testBit_lt_two_pow (by simpa using h)
  rw [Nat.testBit_xor, Nat.testBit_or, show sbit true = 2 ^ 63 by decide, Nat.testBit_two_pow]
  by_cases hi : 63 = i
  · subst hi
    rw [ex]
    simp
  · rw [decide_eq_false hi]
    simp

/-- The float of a whole number: its bits, and what they read as. -/
theorem int_read (M : Nat) (h0 : 0 < M) (h1 : M < 9007199254740992) : ∃ x, floatOfInt .f64 (M : Int) = x ∧ x < 9223372036854775808 ∧ ∀ s, double.read (sbit s + x) = .number s (M * 2 ^ (52 - M.log2)) ((M.log2 : Int) - 52) := by
  have hL : M.log2 ≤ 52 := by
    have := (Nat.log2_lt (k := 53) (by omega : M ≠ 0)).2 (by simpa using h1)
    omega
  have h3 := (Nat.log2_eq_iff (by omega : M ≠ 0)).1 rfl
  have k1 : 4503599627370496 ≤ M * 2 ^ (52 - M.log2) := by
    have : 2 ^ M.log2 * 2 ^ (52 - M.log2) ≤ M * 2 ^ (52 - M.log2) := Nat.mul_le_mul_right _ h3.1
    rw [← Nat.pow_add, show M.log2 + (52 - M.log2) = 52 by omega] at this
    exact this
  have k2 : M * 2 ^ (52 - M.log2) < 9007199254740992 := by
    have : M * 2 ^ (52 - M.log2) < 2 ^ (M.log2 + 1) * 2 ^ (52 - M.log2) := Nat.mul_lt_mul_of_pos_right h3.2 (Nat.pow_pos (by omega))
    rw [← Nat.pow_add, show M.log2 + 1 + (52 - M.log2) = 53 by omega] at this
    exact this
  obtain ⟨K, hK⟩ : ∃ K, M * 2 ^ (52 - M.log2) = K := ⟨_, rfl⟩
  rw [hK] at k1 k2
  have hf : floatOfInt .f64 (M : Int) = double.nearest false M 0 := by
    unfold floatOfInt
    show double.nearest (decide ((M : Int) < 0)) (M : Int).natAbs 0 = _
    rw [Int.natAbs_natCast, decide_eq_false (by omega)]
  have ht : (((M.log2 : Int) - 52) - 0).toNat = 0 := by omega
  have hi : (0 - ((M.log2 : Int) - 52)).toNat = 52 - M.log2 := by omega
  obtain ⟨l1, l2, l3, _, _⟩ := lo4_ge (mant := K) (E := (M.log2 : Int) - 52) (by omega)
  have hn : double.nearest false M 0 = double.word false (rungOf K ((M.log2 : Int) - 52)) := by
    refine nearest_ok (by omega) (by omega) (by omega) (by simpa using k2) (fun _ => by simpa using k1) false M 0 ?_ ?_ ?_
    · rw [ht, hi, hK, Nat.pow_zero, Nat.mul_one]; omega
    · rw [ht, hi, hK, Nat.pow_zero, Nat.mul_one]; omega
    · intro _; rw [ht, hi, hK, Nat.pow_zero, Nat.mul_one, Nat.mul_one]; omega
  rw [hK]
  refine ⟨rungOf K ((M.log2 : Int) - 52), ?_, ?_, fun s => read_rung s K _ (by omega) (by omega) k1 k2⟩
  · rw [hf, hn]; rfl
  · unfold rungOf; omega

/-- strconv's powers of ten, as floats. -/
def tenL : List Nat := [4607182418800017408, 4621819117588971520, 4636737291354636288, 4652007308841189376, 4666723172467343360, 4681608360884174848, 4696837146684686336, 4711630319722168320, 4726483295884279808, 4741671816366391296, 4756540486875873280, 4771362005757984768, 4786511204640096256, 4801453603149578240, 4816244402031689728, 4831355200913801216, 4846369599423283200, 4861130398305394688, 4876203697187506176, 4891288408196988160, 4906019910204099648, 4921056587992461136, 4936209963552724370]
def tenF (k : Nat) : Nat := tenL.getD k 0
def tenOk (k : Nat) : Bool := match double.read (tenF k) with
  | .number false n j => decide (2 ^ 52 ≤ n) && decide (n < 2 ^ 53) && decide (n * 2 ^ j.toNat = 10 ^ k * 2 ^ (-j).toNat)
  | _ => false
theorem ten_all : (List.range 23).all tenOk = true := by decide +kernel
theorem ten_read (k : Nat) (hk : k < 23) : ∃ n j, double.read (tenF k) = .number false n j ∧ 2 ^ 52 ≤ n ∧ n < 2 ^ 53 ∧ n * 2 ^ j.toNat = 10 ^ k * 2 ^ (-j).toNat := by
  have h := List.all_eq_true.1 ten_all k (List.mem_range.2 hk)
  unfold tenOk at h
  split at h
  · rename_i n j hr
    simp only [Bool.and_eq_true, decide_eq_true_eq] at h
    exact ⟨n, j, hr, h.1.1, h.1.2, h.2⟩
  · cases h

/-- The variables that the parse of a float reads. -/
structure FVars (w : World) : Prop where
  opt : w.cell? ⟨1, 0, none⟩ = some (.bool true)
  info : w.cell? ⟨10, 0, none⟩ = some (.int .u64 52)
  tens : ∃ (A : Addr) (c : Nat), w.cell? ⟨13, 0, none⟩ = some (.slice (some A) 23 c) ∧ ∀ k, k < 23 → w.cell? (A.add k) = some (.float .f64 (tenF k))
theorem FVars.below {w w' : World} (h : FVars w) (hb : Below w.heap.size w w') : FVars w' := by
  obtain ⟨A, c, h1, h2⟩ := h.tens
  exact ⟨(hb.cell (cell_lt h.opt)).trans h.opt, (hb.cell (cell_lt h.info)).trans h.info, A, c, (hb.cell (cell_lt h1)).trans h1, fun k hk => (hb.cell (cell_lt (h2 k hk))).trans (h2 k hk)⟩

theorem sbit_false : sbit false = 0 := rfl
set_option maxRecDepth 100000 in
set_option maxHeartbeats 1000000 in
theorem exact_big (neg : Bool) (M : Nat) (Q : Int) (h : 4503599627370496 ≤ M) (h1 : M < 18446744073709551616) (w : World) (hv : FVars w) :
    Calls Tryz.prog 153 #[.int .u64 (M : Int), .int .i64 Q, .bool neg] w fun e w' => e = .returned (.tuple #[.float .f64 0, .bool false]) ∧ w' = w := by
  have hi := hv.info
  have e1 : (M : Int) / 4503599627370496 = ((M / 4503599627370496 : Nat) : Int) := by omega
  obtain ⟨q, hq⟩ : ∃ q, M / 4503599627370496 = q := ⟨_, rfl⟩
  have hq0 : ¬ q = 0 := by omega
  rw [hq] at e1
  clear hv hq h
  go_enter Tryz.func153, Tryz.ntmps153
  go_wp2
  go_ret2
  exact ⟨rfl, rfl⟩

theorem conv_int (M x : Nat) (h : floatOfInt .f64 (M : Int) = x) (w : World) : (convert 24 25 (.int .u64 (M : Int))).run Tryz.prog w = .ok (.float .f64 x) w := by
  rw [← h]
  exact run_convert_int_float (P := Tryz.prog) w 24 25 .u64 .f64 (M : Int) (by rw [Tryz.underlying24]; rfl) Tryz.underlying25

theorem neg_run (x y : Nat) (h : Op.negFloat .f64 x = y) (w : World) : (Op.unary .neg (.float .f64 x)).run Tryz.prog w = .ok (.float .f64 y) w := by rw [← h]; rfl

set_option maxRecDepth 100000 in
set_option maxHeartbeats 2000000 in
theorem exact_int (neg : Bool) (M x : Nat) (hx : floatOfInt .f64 (M : Int) = x) (hx1 : x < 9223372036854775808) (h : M < 4503599627370496) (w : World) (hv : FVars w) :
    Calls Tryz.prog 153 #[.int .u64 (M : Int), .int .i64 0, .bool neg] w fun e w' => e = .returned (.tuple #[.float .f64 (sbit neg + x), .bool true]) ∧ w' = w := by
  have hi := hv.info
  have e1 : (M : Int) / 4503599627370496 = 0 := by omega
  have hc := fun w => conv_int M x hx w
  have hn := flip_sign x hx1
  clear hv hx h
  cases neg
  · rw [sbit_false, Nat.zero_add]
    go_enter Tryz.func153, Tryz.ntmps153
    go_wp2
    go_ret2
    exact ⟨rfl, rfl⟩
  · obtain ⟨y, hy⟩ : ∃ y, sbit true + x = y := ⟨_, rfl⟩
    rw [hy] at hn ⊢
    have hn := neg_run x y hn
    go_enter Tryz.func153, Tryz.ntmps153
    go_wp2
    go_ret2
    exact ⟨rfl, rfl⟩
set_option maxRecDepth 100000 in
set_option maxHeartbeats 2000000 in
theorem exact_quo (neg : Bool) (M x r k : Nat) (hx : floatOfInt .f64 (M : Int) = x) (hx1 : x < 9223372036854775808) (h : M < 4503599627370496) (hk0 : 0 < k) (hk : k < 23) (hd : double.div (sbit neg + x) (tenF k) = some r) (w : World) (hv : FVars w) :
    Calls Tryz.prog 153 #[.int .u64 (M : Int), .int .i64 (-(k : Int)), .bool neg] w fun e w' => e = .returned (.tuple #[.float .f64 r, .bool true]) ∧ w' = w := by
  have hi := hv.info
  obtain ⟨A, c, ht, htc⟩ := hv.tens
  have e1 : (M : Int) / 4503599627370496 = 0 := by omega
  have hc := fun w => conv_int M x hx w
  have hn := flip_sign x hx1
  have c1 := htc k hk
  have g1 : (-(k : Int) == 0) = false := by simp; omega
  have g2 : decide (0 < -(k : Int)) = false := decide_eq_false (by omega)
  have g3 : decide (-(k : Int) < 0) = true := decide_eq_true (by omega)
  have g4 : decide (-22 ≤ -(k : Int)) = true := decide_eq_true (by omega)
  have g5 : IntKind.i64.wrap (-(-(k : Int))) = (k : Int) := by rw [wrapI (by omega) (by omega)]; omega
  have g6 : (0 : Int) ≤ (k : Int) := by omega
  have g7 : (k : Int) < 23 := by omega
  have g8 : k ≠ 0 := by omega
  have hq := fun w => run_float_arith (P := Tryz.prog) w .quo 25 .f64 (sbit neg + x) (tenF k) r hd
  obtain ⟨y, hy⟩ : ∃ y, sbit neg + x = y := ⟨_, rfl⟩
  rw [hy] at hq
  obtain ⟨tk, htk⟩ : ∃ t, tenF k = t := ⟨_, rfl⟩
  rw [htk] at hq c1
  clear hv hx h hd htc htk
  cases neg
  · rw [sbit_false, Nat.zero_add] at hy
    subst hy
    go_enter Tryz.func153, Tryz.ntmps153
    go_wp2
    go_ret2
    exact ⟨rfl, rfl⟩
  · rw [hy] at hn
    have hn := neg_run x y hn
    go_enter Tryz.func153, Tryz.ntmps153
    go_wp2
    go_ret2
    exact ⟨rfl, rfl⟩
set_option maxRecDepth 100000 in
set_option maxHeartbeats 2000000 in
theorem exact_low (neg : Bool) (M x : Nat) (Q : Int) (hx : floatOfInt .f64 (M : Int) = x) (hx1 : x < 9223372036854775808) (h : M < 4503599627370496) (hQ : Q < -22) (w : World) (hv : FVars w) :
    Calls Tryz.prog 153 #[.int .u64 (M : Int), .int .i64 Q, .bool neg] w fun e w' => e = .returned (.tuple #[.float .f64 (sbit neg + x), .bool false]) ∧ w' = w := by
  have hi := hv.info
  have e1 : (M : Int) / 4503599627370496 = 0 := by omega
  have hc := fun w => conv_int M x hx w
  have hn := flip_sign x hx1
  have g1 : (Q == 0) = false := by simp; omega
  have g2 : decide (0 < Q) = false := decide_eq_false (by omega)
  have g3 : decide (Q < 0) = true := decide_eq_true (by omega)
  have g4 : decide (-22 ≤ Q) = false := decide_eq_false (by omega)
  clear hv hx h
  cases neg
  · rw [sbit_false, Nat.zero_add]
    go_enter Tryz.func153, Tryz.ntmps153
    go_wp2
    go_ret2
    exact ⟨rfl, rfl⟩
  · obtain ⟨y, hy⟩ : ∃ y, sbit true + x = y := ⟨_, rfl⟩
    rw [hy] at hn ⊢
    have hn := neg_run x y hn
    go_enter Tryz.func153, Tryz.ntmps153
    go_wp2
    go_ret2
    exact ⟨rfl, rfl⟩
end Go.Proofs.YtcfknhboicomjaaGreatDoor.Ft
