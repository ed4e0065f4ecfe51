/- The walk of the law FnCastFloatText. -/
import Derived.Test.YtcfknhboicomjaaGreatDoorFback
import Derived.Test.YtcfknhboicomjaaGreatDoorFca
namespace Go.Proofs.YtcfknhboicomjaaGreatDoor.Ft
open Go.RowKit Fy Ieee
open Go.Proofs.YtcfknhboicomjaaGreatDoorW.PrintWords (bytesOf)

theorem parts_of (B : Nat) (h : B < 18446744073709551616) : ∃ neg ex mt, Parts B neg ex mt ∧ B = sbit neg + (ex * 4503599627370496 + mt) ∧ ex < 2048 ∧ mt < 4503599627370496 := by
  by_cases hs : B < 9223372036854775808
  · refine ⟨false, _, _, ⟨h, ?_, rfl, rfl⟩, ?_, by omega, by omega⟩
    · rw [show (B : Int) / 9223372036854775808 = 0 by omega]; rfl
    · show B = 0 + _
      omega
  · refine ⟨true, _, _, ⟨h, ?_, rfl, rfl⟩, ?_, by omega, by omega⟩
    · rw [show (B : Int) / 9223372036854775808 = 1 by omega]; rfl
    · show B = 9223372036854775808 + _
      omega

/-- What the bits read as. -/
theorem read_bits (s : Bool) (ex mt : Nat) (he : ex < 2048) (hm : mt < 4503599627370496) :
    double.read (sbit s + (ex * 4503599627370496 + mt)) = if ex = 0 then .number s mt (-1074) else if ex < 2047 then .number s (4503599627370496 + mt) ((ex : Int) - 1075) else if mt = 0 then .infinity s else .nan s mt := by
  have hb : double.binade = 4503599627370496 := rfl
  have hi : double.infRung = 9218868437227405312 := rfl
  have hs : double.signWeight = 9223372036854775808 := rfl
  have hl : double.leastPlace = -1074 := rfl
  obtain ⟨r, hr⟩ : ∃ r, ex * 4503599627370496 + mt = r := ⟨_, rfl⟩
  have e1 : ((sbit s + r) / 9223372036854775808 % 2 == 1) = s := by
    cases s
    · have : (sbit false + r) / 9223372036854775808 = 0 := by
        show (0 + r) / 9223372036854775808 = 0
        omega
      rw [this]; rfl
    · have : (sbit true + r) / 9223372036854775808 = 1 := by
        show (9223372036854775808 + r) / 9223372036854775808 = 1
        omega
      rw [this]; rfl
  have e2 : (sbit s + r) % 9223372036854775808 = r := by
    cases s
    · show (0 + r) % 9223372036854775808 = _
      omega
    · show (9223372036854775808 + r) % 9223372036854775808 = _
      omega
  rw [hr]
  unfold Format.read
  simp only [hs, hb, hi, hl, e1, e2]
  by_cases h0 : ex = 0
  · rw [if_pos (by omega), if_pos h0]
    congr 1; omega
  · rw [if_neg (by omega), if_neg h0]
    by_cases h1 : ex < 2047
    · rw [if_pos (by omega), if_pos h1]
      congr 1 <;> omega
    · rw [if_neg (by omega), if_neg h1]
      by_cases h2 : mt = 0
      · rw [if_pos (by omega), if_pos h2]
      · rw [if_neg (by omega), if_neg h2, show r - 9218868437227405312 = mt by omega]
theorem order_self (B : Nat) (s : Bool) (m : Nat) (i : Int) (h : double.read B = .number s m i) : double.order B B = some .eq := by
  unfold Format.order
  rw [h]
  simp only [Datum.order]
  rw [Int.compare_eq_eq.2 rfl]
theorem order_inf (B : Nat) (s : Bool) (h : double.read B = .infinity s) : double.order B B = some .eq := by
  unfold Format.order
  rw [h]
  simp [Datum.order]
theorem order_nan (B : Nat) (s : Bool) (t : Nat) (h : double.read B = .nan s t) : double.order B B = none := by
  unfold Format.order
  rw [h]
  rfl
theorem read_max : double.read 9218868437227405311 = .number false 9007199254740991 971 := by decide +kernel
theorem order_max (r : Nat) (m : Nat) (i : Int) (h : double.read r = .number false m i) (hm : m ≤ 9007199254740991) (hi : i ≤ 971) : (double.order r 9218868437227405311 == some .gt) = false := by
  unfold Format.order
  rw [h, read_max]
  simp only [Datum.order]
  rw [Int.min_eq_left hi, Int.sub_self]
  have h1 : signed false m (0 : Int).toNat ≤ signed false 9007199254740991 (971 - i).toNat := by
    unfold signed
    simp only [Bool.false_eq_true, if_false, Int.toNat_zero, Nat.shiftLeft_zero]
    rw [Nat.shiftLeft_eq]
    have : 9007199254740991 * 1 ≤ 9007199254740991 * 2 ^ (971 - i).toNat := Nat.mul_le_mul_left _ (Nat.pow_pos (by omega))
    omega
  have h2 : compare (signed false m (0 : Int).toNat) (signed false 9007199254740991 (971 - i).toNat) ≠ .gt := by
    intro hc
    rw [Int.compare_eq_gt] at hc
    omega
  cases hc : compare (signed false m (0 : Int).toNat) (signed false 9007199254740991 (971 - i).toNat)
  · rfl
  · rfl
  · exact absurd hc h2
theorem order_max_inf (r : Nat) (h : double.read r = .infinity false) : (double.order r 9218868437227405311 == some .gt) = true := by
  unfold Format.order
  rw [h, read_max]
  rfl
theorem abs_bits (s : Bool) (r : Nat) (h : r < 9223372036854775808) : bits .andNot .u64 ((sbit s + r : Nat) : Int) 9223372036854775808 = (r : Int) := by
  have hs := sbit_le s
  have hb := u64_andNot_nat (sbit s + r) 9223372036854775808 (by omega) (by omega)
  rw [show ((9223372036854775808 : Nat) : Int) = 9223372036854775808 by rfl] at hb
  rw [hb, show (18446744073709551615 - 9223372036854775808 : Nat) = 2 ^ 63 - 1 by decide, Nat.and_two_pow_sub_one_eq_mod]
  congr 1
  cases s
  · show (0 + r) % 2 ^ 63 = r
    omega
  · show (9223372036854775808 + r) % 2 ^ 63 = r
    omega

set_option maxRecDepth 100000 in
theorem isnan_any (B : Nat) (b : Bool) (h : (FloatKind.f64.format.order B B != some .eq) = b) (w : World) : Calls Tryz.prog 15 #[.float .f64 B] w fun e w' => e = .returned (.bool b) ∧ w' = w := by
  go_enter Tryz.func15, Tryz.ntmps15
  go_wp2
  go_ret
  exact ⟨rfl, rfl⟩
set_option maxRecDepth 100000 in
theorem abs_any (B r : Nat) (h : bits .andNot .u64 (B : Int) 9223372036854775808 = (r : Int)) (w : World) : Calls Tryz.prog 28 #[.float .f64 B] w fun e w' => e = .returned (.float .f64 r) ∧ w' = w := by
  have c1 := call63 B
  have c2 := call62 (r : Int)
  go_enter Tryz.func28, Tryz.ntmps28
  go_wp2
  go_ret
  exact ⟨rfl, rfl⟩
set_option maxRecDepth 100000 in
theorem isinf_any (B r : Nat) (b : Bool) (h : bits .andNot .u64 (B : Int) 9223372036854775808 = (r : Int)) (hb : (FloatKind.f64.format.order r 9218868437227405311 == some .gt) = b) (w : World) : Calls Tryz.prog 16 #[.float .f64 B, .int .i64 0] w fun e w' => e = .returned (.bool b) ∧ w' = w := by
  have ha := fun w => abs_any B r h w
  clear h
  go_enter Tryz.func16, Tryz.ntmps16
  go_wp2_with (go_at_call 28; (with_reducible refine (ha _).mono ?_); rintro e w1 ⟨rfl, rfl⟩)
  go_ret
  exact ⟨rfl, rfl⟩

theorem wri_any (B : Nat) (neg : Bool) (ex mt : Nat) (hP : Parts B neg ex mt) (hB : B = sbit neg + (ex * 4503599627370496 + mt)) (he : ex < 2048) (hm : mt < 4503599627370496) :
    Wri B (fun bs => ex < 2047 → Par (strOfNums bs) B ∧ 0 < (strOfNums bs).size) := by
  intro w0 w v hT ht hp
  by_cases h47 : ex = 2047
  · by_cases h0 : mt = 0
    · cases neg
      · refine (ftoa_inf_p B ex mt hP w0 w v hT h47 h0).mono ?_
        rintro e w' ⟨v', rfl, hT'⟩
        exact ⟨v', _, rfl, fun h => by omega, hT'⟩
      · refine (ftoa_inf_n B ex mt hP w0 w v hT h47 h0).mono ?_
        rintro e w' ⟨v', rfl, hT'⟩
        exact ⟨v', _, rfl, fun h => by omega, hT'⟩
    · refine (ftoa_nan B neg ex mt hP w0 w v hT h47 h0).mono ?_
      rintro e w' ⟨v', rfl, hT'⟩
      exact ⟨v', _, rfl, fun h => by omega, hT'⟩
  · by_cases hz : ex = 0 ∧ mt = 0
    · obtain ⟨h0, h1⟩ := hz
      refine (ftoa_zero B neg ex mt hP w0 w v hT h0 h1).mono ?_
      rintro e w' ⟨v', rfl, hT'⟩
      refine ⟨v', _, rfl, fun _ => ⟨?_, ?_⟩, hT'⟩
      · have : B = sbit neg := by rw [hB, h0, h1]; simp
        rw [this]
        exact par_zero neg
      · rw [strOfNums_size]; simp
    · -- a float that is not 0
      obtain ⟨M, E, hM, hE, hF0⟩ : ∃ (M : Nat) (E : Int), rungOf M E = ex * 4503599627370496 + mt ∧ ((ex = 0 ∧ mt ≠ 0 ∧ M = mt ∧ E = -1074) ∨ (ex ≠ 0 ∧ M = 4503599627370496 + mt ∧ E = (ex : Int) - 1075)) ∧ 0 < M ∧ M < 2 ^ 53 ∧ (-1074 < E → 2 ^ 52 ≤ M) ∧ -1074 ≤ E ∧ E ≤ 971 := by
        by_cases h0 : ex = 0
        · exact ⟨mt, -1074, by unfold rungOf; rw [h0]; simp, .inl ⟨h0, by omega, rfl, rfl⟩, by omega, by omega, by omega, by omega, by omega⟩
        · exact ⟨4503599627370496 + mt, (ex : Int) - 1075, by unfold rungOf; omega, .inr ⟨h0, rfl, rfl⟩, by omega, by omega, by omega, by omega, by omega⟩
      obtain ⟨hM0, hM1, hnrm, hE0, hE1⟩ := hF0
      have htop := shl_top M (by omega) (by omega)
      obtain ⟨z, hz'⟩ : ∃ z, 64 - Lib.bitLen M = z := ⟨_, rfl⟩
      rw [hz'] at htop
      have hF : Flt M E z := ⟨hE0, hE1, hM0, hM1, hnrm, htop.1, htop.2⟩
      obtain ⟨d, hd⟩ : ∃ d, (shortF (M * 2 ^ z) (E - z)).1 = d := ⟨_, rfl⟩
      obtain ⟨pe, hpe⟩ : ∃ pe, (shortF (M * 2 ^ z) (E - z)).2 = pe := ⟨_, rfl⟩
      obtain ⟨p, D, hpp, hp0, hp1, _, hd0, hD17, hpd⟩ := short_ok hF
      rw [hd] at hd0 hpd
      rw [hpe] at hpd
      have hd17 : d < 10 ^ 17 := by rcases hpd with ⟨_, h2⟩ | ⟨_, h2⟩ <;> omega
      have hn17 := nDigits_le hd0 hd17
      have hpeb : -900 ≤ pe ∧ pe ≤ 900 := by rcases hpd with ⟨h1, _⟩ | ⟨h1, _⟩ <;> omega
      obtain ⟨nd, hnd⟩ : ∃ nd, Lib.nDigits d = nd := ⟨_, rfl⟩
      rw [hnd] at hn17
      have fin : ∀ (e : Ending) (w' : World), (∃ v' k, e = .returned v' ∧ 1 ≤ k ∧ k ≤ nd ∧ d % 10 ^ (nd - k) = 0 ∧ Tx w0 w' v' (sgn neg ++ ipart (dgt d nd) k ((nd : Int) + pe) ++ fpart (dgt d nd) k ((nd : Int) + pe)) 0 #[]) →
          ∃ v' bs, e = .returned v' ∧ (ex < 2047 → Par (strOfNums bs) B ∧ 0 < (strOfNums bs).size) ∧ Tx w0 w' v' bs 0 #[] := by
        rintro e w' ⟨v', k, rfl, hk1, hk2, hk3, hT'⟩
        refine ⟨v', _, rfl, fun _ => ⟨?_, ?_⟩, hT'⟩
        · have := par_text hF neg d nd k pe hd hpe hnd hk1 hk2 hk3
          rw [hM, ← hB, ← List.append_assoc] at this
          exact this
        · rw [strOfNums_size, List.length_append, List.length_append]
          have : 0 < (ipart (dgt d nd) k ((nd : Int) + pe)).length := by
            unfold ipart
            split
            · rw [List.length_append, List.length_map, List.length_range]
              omega
            · simp
          omega
      rcases hE with ⟨x0, x1, x2, x3⟩ | ⟨x0, x2, x3⟩
      · exact (ftoa_sub B neg ex mt hP w0 w v hT x0 x1 M (-1022) E z x2 rfl (by omega) hz'.symm (by omega) (by omega) hF ht hp d nd pe hd hpe hnd (by omega) hd0 (by omega) hpeb.1 hpeb.2).mono fin
      · exact (ftoa_norm B neg ex mt hP w0 w v hT x0 (by omega) M ((ex : Int) - 1023) E z x2 rfl (by omega) hz'.symm (by omega) (by omega) hF ht hp d nd pe hd hpe hnd (by omega) hd0 (by omega) hpeb.1 hpeb.2).mono fin

set_option maxRecDepth 100000 in
set_option maxHeartbeats 1000000 in
theorem law_over {B : Nat} {G : List Int → Prop} (h : Wri B G) (r : Nat) (b : Bool) (hn : (FloatKind.f64.format.order B B != some .eq) = b) (ha : bits .andNot .u64 (B : Int) 9223372036854775808 = (r : Int)) (hi : b = false → (FloatKind.f64.format.order r 9218868437227405311 == some .gt) = true) (w : World) (ht : TenAt w) (hp : PowAt w) :
    Calls Tryz.prog 5 #[.float .f64 B] w fun e w' => e = .returned (.bool true) ∧ Below w.heap.size w w' := by
  have hs := str14 h w ht hp
  have h15 := fun w => isnan_any B b hn w
  have h16 := fun hb w => isinf_any B r true ha (hi hb) w
  unfold anyF at hs
  clear h ht hp ha hn hi
  cases b
  · replace h16 := h16 rfl
    go_enter Tryz.func5, Tryz.ntmps5
    go_wp2_with (first | (go_at_call 14; (with_reducible refine hs.mono ?_); rintro e w1 ⟨⟨bs, rfl, hG⟩, hb1⟩) | (go_at_call 15; (with_reducible refine (h15 _).mono ?_); rintro e w2 ⟨rfl, rfl⟩) | (go_at_call 16; (with_reducible refine (h16 _).mono ?_); rintro e w2 ⟨rfl, rfl⟩))
    go_ret
    exact ⟨rfl, hb1⟩
  · clear h16
    go_enter Tryz.func5, Tryz.ntmps5
    go_wp2_with (first | (go_at_call 14; (with_reducible refine hs.mono ?_); rintro e w1 ⟨⟨bs, rfl, hG⟩, hb1⟩) | (go_at_call 15; (with_reducible refine (h15 _).mono ?_); rintro e w2 ⟨rfl, rfl⟩))
    go_ret
    exact ⟨rfl, hb1⟩
set_option maxRecDepth 100000 in
set_option maxHeartbeats 1000000 in
theorem law_fin {B : Nat} (h : Wri B (fun bs => Par (strOfNums bs) B ∧ 0 < (strOfNums bs).size)) (r : Nat) (hn : (FloatKind.f64.format.order B B != some .eq) = false) (he : (FloatKind.f64.format.order B B == some .eq) = true) (ha : bits .andNot .u64 (B : Int) 9223372036854775808 = (r : Int)) (hi : (FloatKind.f64.format.order r 9218868437227405311 == some .gt) = false) (w : World) (ht : TenAt w) (hp : PowAt w) (hv : FVars w) :
    Calls Tryz.prog 5 #[.float .f64 B] w fun e w' => e = .returned (.bool true) ∧ Below w.heap.size w w' := by
  have hs := str14 h w ht hp
  have h15 := fun w => isnan_any B false hn w
  have h16 := fun w => isinf_any B r false ha hi w
  have HT := Lib.hid ht
  have HV := Lib.hid hv
  unfold anyF at hs
  clear h ht hp ha hn hi hv
  go_enter Tryz.func5, Tryz.ntmps5
  go_wp2_with (first | (go_at_call 14; (with_reducible refine hs.mono ?_); rintro e w1 ⟨⟨bs, rfl, hG⟩, hb1⟩) | (go_at_call 15; (with_reducible refine (h15 _).mono ?_); rintro e w2 ⟨rfl, rfl⟩) | (go_at_call 16; (with_reducible refine (h16 _).mono ?_); rintro e w2 ⟨rfl, rfl⟩))
  have hp := par17 hG.2 hG.1 w2 (HV.out.below hb1) (HT.out.below hb1)
  unfold anyF at hp
  refine hp.mono ?_
  rintro e w3 ⟨rfl, hb3⟩
  have hb13 := hb1.trans (hb3.mono hb1.size)
  clear hp hG HT HV h15 h16
  go_wp2
  go_ret
  exact ⟨rfl, hb13⟩
end Go.Proofs.YtcfknhboicomjaaGreatDoor.Ft
