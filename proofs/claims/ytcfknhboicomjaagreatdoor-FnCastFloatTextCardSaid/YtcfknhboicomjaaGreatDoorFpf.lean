/- The walks of strconv's pack64 and parseFloat64. -/
import Derived.Test.YtcfknhboicomjaaGreatDoorFbits
import Derived.Test.YtcfknhboicomjaaGreatDoorFshort2
import Derived.Test.YtcfknhboicomjaaGreatDoorFwd
import Derived.Laws.BitsAllLaws
namespace Go.Proofs.YtcfknhboicomjaaGreatDoor.Ft
open Go.RowKit Fy

/-- The sign's bit. -/
def sbit (neg : Bool) : Nat := if neg then 9223372036854775808 else 0
theorem sbit_le (neg : Bool) : sbit neg ≤ 9223372036854775808 := by unfold sbit; split <;> omega
theorem word_eq (neg : Bool) (r : Nat) : Ieee.double.word neg r = sbit neg + r := by
  cases neg
  · show r = 0 + r
    omega
  · rfl
theorem sbit_or (neg : Bool) (x : Nat) (h : x < 9223372036854775808) : sbit neg ||| x = sbit neg + x := by
  cases neg
  · show 0 ||| x = 0 + x
    simp
  · have := Nat.two_pow_add_eq_or_of_lt (i := 63) (b := x) (by simpa using h) 1
    simp only [Nat.mul_one, Nat.reducePow] at this
    exact this.symm
theorem and_hidden (neg : Bool) (m : Nat) (h : m < 9007199254740992) : bits .and .u64 ((sbit neg + m : Nat) : Int) 4503599627370496 = ((if m < 4503599627370496 then 0 else 4503599627370496 : Nat) : Int) := by
  have := sbit_le neg
  have hb := bits_and_u64_nat (sbit neg + m) 4503599627370496 (by omega) (by omega)
  rw [show ((4503599627370496 : Nat) : Int) = 4503599627370496 by rfl] at hb
  rw [hb]
  have hs : sbit neg / 4503599627370496 % 2 = 0 ∧ sbit neg % 4503599627370496 = 0 := by cases neg <;> decide
  have hbit : (sbit neg + m).testBit 52 = decide (¬ m < 4503599627370496) := by
    rw [Nat.testBit_eq_decide_div_mod_eq, decide_eq_decide]
    omega
  congr 1
  apply Nat.eq_of_testBit_eq
  intro i
  rw [show (4503599627370496 : Nat) = 2 ^ 52 by decide, Nat.testBit_and, Nat.testBit_two_pow]
  by_cases hi : 52 = i
  · subst hi
    rw [hbit]
    by_cases hc : m < 4503599627370496
    · rw [if_pos (by simpa using hc)]
      simp [hc]
    · rw [if_neg (by simpa using hc), Nat.testBit_two_pow]
      simp [hc]
  · rw [decide_eq_false hi]
    split
    · simp
    · rw [Nat.testBit_two_pow]
      simp [hi]
theorem andNot_hidden (neg : Bool) (r : Nat) (h : r < 4503599627370496) : bits .andNot .u64 ((sbit neg + (4503599627370496 + r) : Nat) : Int) 4503599627370496 = ((sbit neg + r : Nat) : Int) := by
  have := sbit_le neg
  have hb := u64_andNot_nat (sbit neg + (4503599627370496 + r)) 4503599627370496 (by omega) (by omega)
  rw [show ((4503599627370496 : Nat) : Int) = 4503599627370496 by rfl] at hb
  rw [hb]
  congr 1
  have e1 : sbit neg + (4503599627370496 + r) = sbit neg ||| (4503599627370496 + r) := (sbit_or neg _ (by omega)).symm
  have e2 : 4503599627370496 + r = 2 ^ 52 ||| r := by
    have := Nat.two_pow_add_eq_or_of_lt (i := 52) (b := r) (by simpa using h) 1
    simp only [Nat.mul_one] at this
    rw [← this]
  have e3 : sbit neg + r = sbit neg ||| r := (sbit_or neg _ (by omega)).symm
  rw [e1, e2, e3]
  have hs52 : (sbit neg).testBit 52 = false := by cases neg <;> decide
  have hr52 : r.testBit 52 = false := Nat.testBit_lt_two_pow (by simpa using h)
  have hlt : sbit neg ||| r < 2 ^ 64 := Nat.or_lt_two_pow (by omega) (by omega)
  apply Nat.eq_of_testBit_eq
  intro i
  rw [Nat.testBit_and, Nat.testBit_or, Nat.testBit_or, show (18446744073709551615 - 4503599627370496 : Nat) = 2 ^ 64 - (2 ^ 52 + 1) by decide, Nat.testBit_two_pow_sub_succ (by decide), Nat.testBit_two_pow]
  by_cases hi : 52 = i
  · subst hi
    rw [Nat.testBit_or, hs52, hr52]
    simp
  · rw [decide_eq_false hi, Nat.testBit_or]
    by_cases h64 : i < 64
    · simp [h64]
    · have : (sbit neg ||| r).testBit i = false := Nat.testBit_lt_two_pow (Nat.lt_of_lt_of_le hlt (Nat.pow_le_pow_right (by omega) (by omega)))
      rw [Nat.testBit_or] at this
      rw [this]
      simp [h64]
theorem or_exp (neg : Bool) (r k : Nat) (h : r < 4503599627370496) (hk : k < 2048) : bits .or .u64 ((sbit neg + r : Nat) : Int) ((k * 4503599627370496 : Nat) : Int) = ((sbit neg + (k * 4503599627370496 + r) : Nat) : Int) := by
  have := sbit_le neg
  rw [bits_or_u64_nat _ _ (by omega) (by omega)]
  congr 1
  have e1 : sbit neg + r = sbit neg ||| r := (sbit_or neg _ (by omega)).symm
  have e2 : k * 4503599627370496 + r = k * 4503599627370496 ||| r := by
    have := Nat.two_pow_add_eq_or_of_lt (i := 52) (b := r) (by simpa using h) k
    simp only [Nat.reducePow] at this
    rw [Nat.mul_comm]; exact this
  rw [e1, Nat.or_assoc, Nat.or_comm r, ← e2, sbit_or neg _ (by omega)]

set_option maxRecDepth 100000 in
set_option maxHeartbeats 1000000 in
theorem pack_any (neg : Bool) (mant : Nat) (E : Int) (h1 : mant < 9007199254740992) (h2 : -1074 ≤ E) (h3 : E ≤ 971) (h4 : -1074 < E → 4503599627370496 ≤ mant) (w : World) :
    Calls Tryz.prog 160 #[.int .u64 ((sbit neg + mant : Nat) : Int), .int .i64 E] w fun e w' => e = .returned (.tuple #[.float .f64 (Ieee.double.word neg (rungOf mant E)), .nilIface]) ∧ w' = w := by
  have hs := sbit_le neg
  have ha := and_hidden neg mant h1
  rw [word_eq]
  by_cases hc : mant < 4503599627370496
  · have hE : E = -1074 := by omega
    have hr : sbit neg + rungOf mant E = sbit neg + mant := by unfold rungOf; rw [hE]; simp
    rw [if_pos hc] at ha
    rw [hr]
    obtain ⟨S, hS⟩ : ∃ S, sbit neg + mant = S := ⟨_, rfl⟩
    rw [hS] at ha ⊢
    have c := call152 (S : Int)
    clear hS hr h4 hs
    go_enter Tryz.func160, Tryz.ntmps160
    go_wp2
    go_ret2
    exact ⟨rfl, rfl⟩
  · obtain ⟨r, rfl⟩ : ∃ r, mant = 4503599627370496 + r := ⟨mant - 4503599627370496, by omega⟩
    have hr : r < 4503599627370496 := by omega
    obtain ⟨k, hk⟩ : ∃ k : Nat, (k : Int) = 1075 + E := ⟨(1075 + E).toNat, by omega⟩
    have hn := andNot_hidden neg r hr
    have ho := or_exp neg r k hr (by omega)
    have hrung : sbit neg + rungOf (4503599627370496 + r) E = sbit neg + (k * 4503599627370496 + r) := by unfold rungOf; omega
    rw [if_neg hc] at ha
    rw [hrung]
    obtain ⟨S, hS⟩ : ∃ S, sbit neg + (4503599627370496 + r) = S := ⟨_, rfl⟩
    rw [hS] at ha hn ⊢
    obtain ⟨S2, hS2⟩ : ∃ S, sbit neg + r = S := ⟨_, rfl⟩
    rw [hS2] at hn ho
    obtain ⟨S3, hS3⟩ : ∃ S, sbit neg + (k * 4503599627370496 + r) = S := ⟨_, rfl⟩
    rw [hS3, show ((k * 4503599627370496 : Nat) : Int) = (k : Int) * 4503599627370496 by omega] at ho
    rw [hS3]
    have c := call152 (S3 : Int)
    have g1 : decide (972 ≤ E) = false := decide_eq_false (by omega)
    have g2 : IntKind.i64.wrap (1075 + E) = (k : Int) := by rw [wrapI (by omega) (by omega), hk]
    have g3 : IntKind.u64.wrap (k : Int) = (k : Int) := wrapU (by omega) (by omega)
    have g4 : IntKind.u64.wrap ((k : Int) * 4503599627370496) = (k : Int) * 4503599627370496 := wrapU (by omega) (by omega)
    clear hS hS2 hS3 hrung hk hs h4 hc h1
    go_enter Tryz.func160, Tryz.ntmps160
    go_wp2
    go_ret2
    exact ⟨rfl, rfl⟩

theorem usc_lt (x H L s : Nat) (hx : x < 2 ^ 64) (hH : H < 2 ^ 64) (hs : 8 ≤ s) : usc x H L s < 2 ^ 56 := by
  have hi : x * H / 2 ^ 64 < 2 ^ 64 := by
    have : x * H < 2 ^ 64 * 2 ^ 64 := Nat.mul_lt_mul'' hx hH
    omega
  have dv : ∀ a : Nat, a < 2 ^ 64 → a / 2 ^ s < 2 ^ 56 := fun a ha => by
    rw [Nat.div_lt_iff_lt_mul (Nat.pow_pos (by omega)), ← Nat.pow_add]
    exact Nat.lt_of_lt_of_le ha (Nat.pow_le_pow_right (by omega) (by omega))
  unfold usc
  dsimp only
  split
  · exact Nat.or_lt_two_pow (dv _ hi) (by omega)
  · refine Nat.or_lt_two_pow (n := 56) ?_ ?_
    · apply dv
      split
      · exact Nat.mod_lt _ (by omega)
      · exact hi
    · split <;> omega
theorem or_low (u : Nat) : u ||| u % 2 = u := by
  rw [← Nat.and_one_is_mod]
  apply Nat.eq_of_testBit_eq
  intro i
  rw [Nat.testBit_or, Nat.testBit_and]
  cases u.testBit i <;> simp

set_option maxRecDepth 100000 in
set_option maxHeartbeats 2000000 in
theorem parse_core (neg big : Bool) (d : Nat) (Q : Int) (mant : Nat) (E : Int) (b : Nat) (l e : Int) (S x u u2 : Nat) (hd0 : 0 < d) (hd : d < 18446744073709551616) (hQ0 : -348 ≤ Q) (hQ1 : Q ≤ 347) (hb : Lib.bitLen d = b) (hb0 : 1 ≤ b) (hb1 : b ≤ 64) (hl : l2 Q = l) (hl0 : -2000 ≤ l) (hl1 : l ≤ 2000) (he : min 1074 (53 - (b : Int) - l) = e)
    (hS : -(e - (64 - (b : Int)) + l + 3) = (S : Int)) (hS1 : S < 64) (hx : d * 2 ^ (64 - b) = x) (hx1 : x < 18446744073709551616) (hu : usc x (rowOf Q).1 (rowOf Q).2 S = u) (hu1 : u < 72057594037927936) (hbig : big = decide (36028797018963966 ≤ u)) (hu2 : (if big then u / 2 else u) ||| u % 2 = u2) (hu3 : u2 < 72057594037927936) (hr : rnd u2 = mant) (hE : (if big then 1 else 0) - e = E)
    (h1 : mant < 9007199254740992) (h2 : -1074 ≤ E) (h3 : E ≤ 971) (h4 : -1074 < E → 4503599627370496 ≤ mant) (w : World) (ht : TenAt w) :
    Calls Tryz.prog 154 #[.int .u64 (d : Int), .int .i64 Q, .int .u64 ((sbit neg : Nat) : Int)] w fun e w' => e = .returned (.tuple #[.float .f64 (Ieee.double.word neg (rungOf mant E)), .nilIface]) ∧ Below w.heap.size w w' := by
  have hpack := fun w => pack_any neg mant E h1 h2 h3 h4 w
  have hsb := sbit_le neg
  have hor : bits .or .u64 ((sbit neg : Nat) : Int) (mant : Int) = ((sbit neg + mant : Nat) : Int) := by
    rw [bits_or_u64_nat _ _ (by omega) (by omega), sbit_or neg _ (by omega)]
  obtain ⟨sg, hsg⟩ : ∃ sg, sbit neg = sg := ⟨_, rfl⟩
  rw [hsg] at hor hsb hpack ⊢
  obtain ⟨sm, hsm⟩ : ∃ sm, sg + mant = sm := ⟨_, rfl⟩
  rw [hsm] at hor hpack
  obtain ⟨H, hHd⟩ : ∃ H, (rowOf Q).1 = H := ⟨_, rfl⟩
  obtain ⟨L, hLd⟩ : ∃ H, (rowOf Q).2 = H := ⟨_, rfl⟩
  have hrow := row_ok Q hQ0 hQ1
  simp only [rowOk, Bool.and_eq_true, decide_eq_true_eq] at hrow
  have hH : H < 18446744073709551616 := by rw [← hHd]; exact hrow.1.1.1.1.1.1
  have hL : L < 18446744073709551616 := by rw [← hLd]; exact hrow.1.1.1.1.1.2
  clear hrow
  have hpre := prescale_new (e - (64 - (b : Int))) Q l S hQ0 hQ1 (by omega) (by omega) (by omega) (by omega) hS w ht
  rw [hHd, hLd] at hpre
  rw [hHd, hLd] at hu
  clear hHd hLd
  have hlen : ∀ w, Calls Tryz.prog 101 #[.int .u64 (d : Int)] w fun e w' => e = .returned (.int .i64 (b : Nat)) ∧ w' = w := fun w => by
    have := Tryz.bits_Len64 (d : Int) w (by omega) (by omega)
    rw [Int.toNat_natCast, hb] at this
    exact this
  have hl2 := fun w => l2_any Q (by omega) (by omega) w
  rw [hl] at hl2
  have hun := fun w => unmin_any 9007199254740992 (by omega) (by omega) w
  rw [show ((4 * 9007199254740992 - 2 : Nat) : Int) = 36028797018963966 by decide, show ((9007199254740992 : Nat) : Int) = 9007199254740992 by decide] at hun
  have hbl := fun w => Tryz.internal_strconv_bool2_int big w
  have hrd := fun w => round_any u2 (by omega) w
  rw [hr] at hrd
  have hsh := shl_nat d (64 - b) x hx hx1
  have e1 : IntKind.i64.wrap (53 - (b : Int)) = 53 - (b : Int) := wrapI (by omega) (by omega)
  have e2 : IntKind.i64.wrap (53 - (b : Int) - l) = 53 - (b : Int) - l := wrapI (by omega) (by omega)
  have e3 : IntKind.i64.wrap (64 - (b : Int)) = 64 - (b : Int) := wrapI (by omega) (by omega)
  have e4 : IntKind.i64.wrap (e - (64 - (b : Int))) = e - (64 - (b : Int)) := wrapI (by omega) (by omega)
  have e5 : (64 - (b : Int)).toNat = 64 - b := by omega
  have e6 : (0 : Int) ≤ 64 - (b : Int) := by omega
  have a1 := and_one .u64 rfl u (by omega)
  have o1 := bits_or_u64_nat (if big then u / 2 else u) (u % 2) (by split <;> omega) (by omega)
  rw [hu2] at o1
  have he0 : -3000 ≤ e := by omega
  have he1 : e ≤ 1074 := by omega
  have e7 : min 1074 (53 - (b : Int) - l) = e := he
  have e8 : min (53 - (b : Int) - l) 1074 = e := by rw [← he]; exact Int.min_comm ..
  clear hu2 hb hl he hS hx hr ht hd0 hd
  have gS : decide (64 ≤ (S : Int)) = false := decide_eq_false (by omega)
  cases big
  · have g1 : decide (36028797018963966 ≤ u) = false := hbig.symm
    have g2 : decide ((36028797018963966 : Int) ≤ (u : Int)) = false := by have := of_decide_eq_false g1; simp; omega
    simp only [Bool.false_eq_true, if_false] at o1 hE hbl
    push_cast at o1
    have n2 : IntKind.i64.wrap (-e) = E := by rw [wrapI (by omega) (by omega)]; omega
    have n3 : IntKind.i64.wrap e = e := wrapI (by omega) (by omega)
    clear hbig hE
    go_enter Tryz.func154, Tryz.ntmps154
    go_wp2_with (first | (go_at_call 101; (with_reducible refine (hlen _).mono ?_); rintro e w1 ⟨rfl, rfl⟩) | (go_at_call 121; (with_reducible refine (hl2 _).mono ?_); rintro e w1 ⟨rfl, rfl⟩) | (go_at_call 120; (with_reducible refine hpre.mono ?_); rintro e w1 ⟨rfl, hSc⟩; have hc2 := hSc.c2) | (go_at_call 122; (with_reducible refine (uscale_sc (by assumption) x u hu hx1 hH hL hS1).mono ?_); rintro e w1 ⟨rfl, hSc2⟩) | (go_at_call 127; (with_reducible refine (hun _).mono ?_); rintro e w1 ⟨rfl, rfl⟩) | (go_at_call 110; (with_reducible refine (hbl _).mono ?_); rintro e w1 ⟨rfl, rfl⟩) | (go_at_call 126; (with_reducible refine (hrd _).mono ?_); rintro e w1 ⟨rfl, rfl⟩) | (go_at_call 160; (with_reducible refine (hpack _).mono ?_); rintro e w1 ⟨rfl, rfl⟩))
    go_ret2
    exact ⟨rfl, Sc.below (by assumption)⟩
  · have g1 : decide (36028797018963966 ≤ u) = true := hbig.symm
    have g2 : decide ((36028797018963966 : Int) ≤ (u : Int)) = true := by have := of_decide_eq_true g1; simp; omega
    simp only [if_true] at o1 hE hbl
    push_cast at o1
    have n1 : IntKind.i64.wrap (e - 1) = e - 1 := wrapI (by omega) (by omega)
    have n2 : IntKind.i64.wrap (-(e - 1)) = E := by rw [wrapI (by omega) (by omega)]; omega
    clear hbig hE
    go_enter Tryz.func154, Tryz.ntmps154
    go_wp2_with (first | (go_at_call 101; (with_reducible refine (hlen _).mono ?_); rintro e w1 ⟨rfl, rfl⟩) | (go_at_call 121; (with_reducible refine (hl2 _).mono ?_); rintro e w1 ⟨rfl, rfl⟩) | (go_at_call 120; (with_reducible refine hpre.mono ?_); rintro e w1 ⟨rfl, hSc⟩; have hc2 := hSc.c2) | (go_at_call 122; (with_reducible refine (uscale_sc (by assumption) x u hu hx1 hH hL hS1).mono ?_); rintro e w1 ⟨rfl, hSc2⟩) | (go_at_call 127; (with_reducible refine (hun _).mono ?_); rintro e w1 ⟨rfl, rfl⟩) | (go_at_call 110; (with_reducible refine (hbl _).mono ?_); rintro e w1 ⟨rfl, rfl⟩) | (go_at_call 126; (with_reducible refine (hrd _).mono ?_); rintro e w1 ⟨rfl, rfl⟩) | (go_at_call 160; (with_reducible refine (hpack _).mono ?_); rintro e w1 ⟨rfl, rfl⟩))
    go_ret2
    exact ⟨rfl, Sc.below (by assumption)⟩

/-- strconv.parseFloat64 of d 10^Q, with a sign. -/
theorem parse_any (neg : Bool) (d : Nat) (Q : Int) (mant : Nat) (E : Int) (hd0 : 0 < d) (hd : d < 18446744073709551616) (hQ0 : -348 ≤ Q) (hQ1 : Q ≤ 347) (hs0 : 8 ≤ prS d Q) (hs1 : prS d Q ≤ 62) (hp : prs d Q = (mant, E))
    (h1 : mant < 9007199254740992) (h2 : -1074 ≤ E) (h3 : E ≤ 971) (h4 : -1074 < E → 4503599627370496 ≤ mant) (w : World) (ht : TenAt w) :
    Calls Tryz.prog 154 #[.int .u64 (d : Int), .int .i64 Q, .int .u64 ((sbit neg : Nat) : Int)] w fun e w' => e = .returned (.tuple #[.float .f64 (Ieee.double.word neg (rungOf mant E)), .nilIface]) ∧ Below w.heap.size w w' := by
  have hB : Lib.bitLen d = prB d := bitLen_log2 d (by omega) hd
  have hb := bitLen_pos d (by omega) hd
  have ht2 := shl_top d (by omega) hd
  rw [hB] at hb ht2
  have hrow := row_ok Q hQ0 hQ1
  simp only [rowOk, Bool.and_eq_true, decide_eq_true_eq] at hrow
  have hu := usc_lt (d * 2 ^ (64 - prB d)) (rowOf Q).1 (rowOf Q).2 (prS d Q).toNat ht2.2 hrow.1.1.1.1.1.1 (by omega)
  have hl : -2000 ≤ l2 Q ∧ l2 Q ≤ 2000 := by unfold l2; omega
  have hE := congrArg Prod.snd hp
  have hm := congrArg Prod.fst hp
  have hu' : prU d Q < 72057594037927936 := hu
  have hh : halve (prU d Q) < 72057594037927936 := by
    unfold halve
    exact Nat.or_lt_two_pow (n := 56) (by omega) (by omega)
  have hS : -(prE d Q - (64 - (prB d : Int)) + l2 Q + 3) = (((prS d Q).toNat : Nat) : Int) := by
    rw [Int.toNat_of_nonneg (by omega)]; rfl
  unfold prs at hE hm
  by_cases hc : 2 ^ 55 - 2 ≤ prU d Q
  · rw [if_pos hc] at hE hm
    refine parse_core neg true d Q mant E (prB d) (l2 Q) (prE d Q) (prS d Q).toNat _ (prU d Q) (halve (prU d Q)) hd0 hd hQ0 hQ1 hB hb.1 hb.2 rfl hl.1 hl.2 rfl hS (by omega) rfl ht2.2 rfl hu' ?_ rfl hh hm ?_ h1 h2 h3 h4 w ht
    · exact (decide_eq_true (by simpa using hc)).symm
    · rw [if_pos rfl]; exact hE
  · rw [if_neg hc] at hE hm
    refine parse_core neg false d Q mant E (prB d) (l2 Q) (prE d Q) (prS d Q).toNat _ (prU d Q) (prU d Q) hd0 hd hQ0 hQ1 hB hb.1 hb.2 rfl hl.1 hl.2 rfl hS (by omega) rfl ht2.2 rfl hu' ?_ (or_low _) hu' hm ?_ h1 h2 h3 h4 w ht
    · exact (decide_eq_false (by simpa using hc)).symm
    · rw [if_neg (by decide)]
      have : -prE d Q = E := hE
      omega
end Go.Proofs.YtcfknhboicomjaaGreatDoor.Ft
