/- The walks of strconv's small functions on unrounded numbers, and of uscale. -/
import Derived.Test.YtcfknhboicomjaaGreatDoorFshelf
import Derived.Test.YtcfknhboicomjaaGreatDoorPrs4
import Derived.WalkKit
import Derived.Lib.Hide
import Derived.BigQuiet
namespace Go.Proofs.YtcfknhboicomjaaGreatDoor.Ft
open Go.RowKit Fy

theorem wrapU {x : Int} (h0 : 0 ≤ x) (h1 : x < 18446744073709551616) : IntKind.u64.wrap x = x := by simp [IntKind.wrap, IntKind.bits, IntKind.signed]; omega
theorem and_one (k : IntKind) (hk : k = .u64) (a : Nat) (ha : a < 2 ^ 64) : bits .and k (a : Int) 1 = ((a % 2 : Nat) : Int) := by
  subst hk
  rw [show (1 : Int) = ((1 : Nat) : Int) by rfl, bits_and_u64_nat a 1 ha (by omega), Nat.and_one_is_mod]
theorem and_63 (s : Nat) (hs : s < 64) : bits .and .i64 (s : Int) 63 = (s : Int) := by
  have : ∀ s : Fin 64, bits .and .i64 ((s.val : Nat) : Int) 63 = ((s.val : Nat) : Int) := by decide +kernel
  exact this ⟨s, hs⟩
set_option maxRecDepth 100000 in
theorem ceil_any (u : Nat) (h : u + 3 < 2 ^ 64) (w : World) : Calls Tryz.prog 124 #[.int .u64 u] w fun e w' => e = .returned (.int .u64 ((u + 3) / 4 : Nat)) ∧ w' = w := by
  go_enter Tryz.func124, Tryz.ntmps124
  go_wp2
  go_ret
  exact ⟨rfl, rfl⟩
set_option maxRecDepth 100000 in
theorem floor_any (u : Nat) (h : u < 2 ^ 64) (w : World) : Calls Tryz.prog 125 #[.int .u64 u] w fun e w' => e = .returned (.int .u64 (u / 4 : Nat)) ∧ w' = w := by
  go_enter Tryz.func125, Tryz.ntmps125
  go_wp2
  go_ret
  exact ⟨rfl, rfl⟩
set_option maxRecDepth 100000 in
theorem round_any (u : Nat) (h : u + 2 < 2 ^ 64) (w : World) : Calls Tryz.prog 126 #[.int .u64 u] w fun e w' => e = .returned (.int .u64 (rnd u : Nat)) ∧ w' = w := by
  have h1 : bits .and .u64 ((u : Int) / 4) 1 = ((u / 4 % 2 : Nat) : Int) := by
    have := and_one .u64 rfl (u / 4) (by omega)
    rw [← this]; rfl
  have h2 : IntKind.u64.wrap ((u : Int) + 1 + ((u / 4 % 2 : Nat) : Int)) = (u : Int) + 1 + ((u / 4 % 2 : Nat) : Int) := wrapU (by omega) (by omega)
  go_enter Tryz.func126, Tryz.ntmps126
  go_wp2
  go_ret
  refine ⟨?_, rfl⟩
  simp only [h1, h2]
  congr 2
set_option maxRecDepth 100000 in
theorem bool2_any (b : Bool) (w : World) : Calls Tryz.prog 140 #[.bool b] w fun e w' => e = .returned (.int .u64 (if b then 1 else 0)) ∧ w' = w := by
  cases b
  · go_enter Tryz.func140, Tryz.ntmps140
    go_wp2
    go_ret
    exact ⟨rfl, rfl⟩
  · go_enter Tryz.func140, Tryz.ntmps140
    go_wp2
    go_ret
    exact ⟨rfl, rfl⟩
theorem pow63 {s : Nat} (h : s < 64) : 2 ^ s ≤ 9223372036854775808 := by
  have := Nat.pow_le_pow_right (n := 2) (by omega) (show s ≤ 63 by omega)
  omega
theorem shr_nat (a s : Nat) : (a : Int) / 2 ^ s = ((a / 2 ^ s : Nat) : Int) := by norm_cast
theorem shl_nat (a s b : Nat) (h : a * 2 ^ s = b) (hb : b < 18446744073709551616) : IntKind.u64.wrap ((a : Int) * 2 ^ s) = (b : Int) := by
  have : (a : Int) * 2 ^ s = (b : Int) := by rw [← h]; norm_cast
  rw [this]; exact wrapU (by omega) (by omega)
set_option maxRecDepth 100000 in
theorem uscale_ne (x H L s g hi mid q qs : Nat) (hx : x < 18446744073709551616) (hH : H < 18446744073709551616) (hs : s < 64) (hhi : x * H / 18446744073709551616 = hi) (hmid : x * H % 18446744073709551616 = mid) (hq : hi / 2 ^ s = q) (hqs : q * 2 ^ s = qs) (hhi64 : hi < 18446744073709551616) (hqh : qs < 18446744073709551616) (hqq : q < 18446744073709551616) (hne : qs ≠ hi) (w : World) (c0 : w.cell? ⟨g, 0, none⟩ = some (.int .u64 H)) (c2 : w.cell? ⟨g, 2, none⟩ = some (.int .i64 s)) :
    Calls Tryz.prog 122 #[.int .u64 x, .pointer (some ⟨g, 0, none⟩)] w fun e w' => e = .returned (.int .u64 (q ||| 1 : Nat)) ∧ ∃ n, w' = w.drewN n := by
  have h63 := and_63 s hs
  have hm1 := fun w => Tryz.bits_Mul64 x H hx hH w
  simp only [hhi, hmid] at hm1
  have e1 : (hi : Int) / 2 ^ s = (q : Int) := by rw [shr_nat, hq]
  have e2 := shl_nat q s qs hqs hqh
  have g1 : ((qs : Int) != (hi : Int)) = true := by simp; omega
  have o1 : bits .or .u64 (q : Int) 1 = ((q ||| 1 : Nat) : Int) := bits_or_u64_nat q 1 hqq (by omega)
  clear hhi hmid hq hqs
  go_enter Tryz.func122, Tryz.ntmps122
  go_wp2_with (go_at_call 139; refine (hm1 _).mono ?_; rintro e w1 ⟨rfl, rfl⟩)
  go_ret
  exact ⟨rfl, 0, rfl⟩
set_option maxRecDepth 100000 in

theorem uscale_eq (x H L s g hi mid mid2 lo q b1 b2 : Nat) (hx : x < 18446744073709551616) (hH : H < 18446744073709551616) (hL : L < 18446744073709551616) (hs : s < 64) (hhi : x * H / 18446744073709551616 = hi) (hmid : x * H % 18446744073709551616 = mid) (hmid2 : x * L / 18446744073709551616 = mid2) (hlo : x * L % 18446744073709551616 = lo) (hq : hi / 2 ^ s = q) (hqs : q * 2 ^ s = hi) (hhi64 : hi < 18446744073709551616) (hb1 : b1 = if mid < mid2 then 1 else 0) (hb2 : b2 = if (mid + 18446744073709551616 - mid2) % 18446744073709551616 > 1 then 1 else 0) (hm2 : mid < 18446744073709551616) (hmm : mid2 < 18446744073709551616)
    (z : Nat) (hz : (hi + 18446744073709551616 - b1) % 18446744073709551616 = z) (q2 : Nat) (hq2 : z / 2 ^ s = q2) (hq64 : q2 < 18446744073709551616) (w : World) (c0 : w.cell? ⟨g, 0, none⟩ = some (.int .u64 H)) (c1 : w.cell? ⟨g, 1, none⟩ = some (.int .u64 L)) (c2 : w.cell? ⟨g, 2, none⟩ = some (.int .i64 s)) :
    Calls Tryz.prog 122 #[.int .u64 x, .pointer (some ⟨g, 0, none⟩)] w fun e w' => e = .returned (.int .u64 (q2 ||| b2 : Nat)) ∧ ∃ n, w' = w.drewN n := by
  have h63 := and_63 s hs
  have hm1 := fun w => Tryz.bits_Mul64 x H hx hH w
  have hm2' := fun w => Tryz.bits_Mul64 x L hx hL w
  simp only [hhi, hmid] at hm1
  simp only [hmid2, hlo] at hm2'
  have e1 : (hi : Int) / 2 ^ s = (q : Int) := by rw [shr_nat, hq]
  have e2 := shl_nat q s hi hqs hhi64
  have g1 : ((hi : Int) != (hi : Int)) = false := by simp
  have hbA : ∀ w, Calls Tryz.prog 140 #[.bool (decide (mid < mid2))] w fun e w' => e = .returned (.int .u64 (b1 : Int)) ∧ w' = w := fun w => (bool2_any _ w).mono fun e w' h => by
    rw [hb1]; by_cases h' : mid < mid2
    · simpa [h'] using h
    · simpa [h'] using h
  have b1le : b1 ≤ 1 := by rw [hb1]; split <;> omega
  have b2le : b2 ≤ 1 := by rw [hb2]; split <;> omega
  have e3 : IntKind.u64.wrap ((hi : Int) - (b1 : Int)) = (z : Int) := by
    simp [IntKind.wrap, IntKind.bits, IntKind.signed]; omega
  have e4 : (z : Int) / 2 ^ s = (q2 : Int) := by rw [shr_nat, hq2]
  obtain ⟨m, hm⟩ : ∃ m, (mid + 18446744073709551616 - mid2) % 18446744073709551616 = m := ⟨_, rfl⟩
  have e5 : IntKind.u64.wrap ((mid : Int) - (mid2 : Int)) = (m : Int) := by
    simp [IntKind.wrap, IntKind.bits, IntKind.signed]; omega
  have hbB : ∀ w, Calls Tryz.prog 140 #[.bool (decide (1 < m))] w fun e w' => e = .returned (.int .u64 (b2 : Int)) ∧ w' = w := fun w => (bool2_any _ w).mono fun e w' h => by
    rw [hb2, hm]; by_cases h' : 1 < m
    · simpa [h'] using h
    · simpa [h'] using h
  have o1 : bits .or .u64 (q2 : Int) b2 = ((q2 ||| b2 : Nat) : Int) := bits_or_u64_nat q2 b2 hq64 (by omega)
  clear hhi hmid hq hmid2 hlo hz hq2 hb1 hb2 hm

  go_enter Tryz.func122, Tryz.ntmps122
  go_wp2_with (first | (go_at_call 139; (with_reducible refine (hm1 _).mono ?_); rintro e w1 ⟨rfl, rfl⟩) | (go_at_call 139; (with_reducible refine (hm2' _).mono ?_); rintro e w1 ⟨rfl, rfl⟩) | (go_at_call 140; (with_reducible refine (hbA _).mono ?_); rintro e w1 ⟨rfl, rfl⟩))
  have hbC : ∀ w, Calls Tryz.prog 140 #[.bool (decide ((1 : Int) < (m : Int)))] w fun e w' => e = .returned (.int .u64 (b2 : Int)) ∧ w' = w := fun w => by
    rw [show decide ((1 : Int) < (m : Int)) = decide (1 < m) by rw [decide_eq_decide]; omega]
    exact hbB w
  go_quiet (first | (go_at_call 140; with_reducible exact Calls.quiet_of_same (hbB _)) | (go_at_call 140; with_reducible exact Calls.quiet_of_same (hbC _)) | (go_at_call 140; simp only [e5]; with_reducible exact Calls.quiet_of_same (hbC _)))
  go_wp2
  go_ret
  exact ⟨rfl, _, rfl⟩
theorem uscale_any (x H L s g : Nat) (hx : x < 18446744073709551616) (hH : H < 18446744073709551616) (hL : L < 18446744073709551616) (hs : s < 64) (w : World) (c0 : w.cell? ⟨g, 0, none⟩ = some (.int .u64 H)) (c1 : w.cell? ⟨g, 1, none⟩ = some (.int .u64 L)) (c2 : w.cell? ⟨g, 2, none⟩ = some (.int .i64 s)) :
    Calls Tryz.prog 122 #[.int .u64 x, .pointer (some ⟨g, 0, none⟩)] w fun e w' => e = .returned (.int .u64 (usc x H L s : Nat)) ∧ ∃ n, w' = w.drewN n := by
  have lt (a b : Nat) (ha : a < 18446744073709551616) (hb : b < 18446744073709551616) : a * b / 18446744073709551616 < 18446744073709551616 := by
    have : a * b < 18446744073709551616 * 18446744073709551616 := Nat.mul_lt_mul'' ha hb
    omega
  have hi64 := lt x H hx hH
  have hle : x * H / 18446744073709551616 / 2 ^ s * 2 ^ s ≤ x * H / 18446744073709551616 := Nat.div_mul_le_self ..
  have hqle : x * H / 18446744073709551616 / 2 ^ s ≤ x * H / 18446744073709551616 := Nat.div_le_self ..
  by_cases hne : x * H / 18446744073709551616 / 2 ^ s * 2 ^ s = x * H / 18446744073709551616
  · have key := uscale_eq x H L s g _ _ _ _ _ _ _ hx hH hL hs rfl rfl rfl rfl rfl hne hi64 rfl rfl (Nat.mod_lt _ (by omega)) (lt x L hx hL) _ rfl _ rfl (Nat.lt_of_le_of_lt (Nat.div_le_self ..) (Nat.mod_lt _ (by omega))) w c0 c1 c2
    have hu : usc x H L s = _ := if_neg (not_not_intro hne)
    rw [hu]
    refine key.mono fun e w' h => ?_
    rw [h.1]
    refine ⟨?_, h.2⟩
    congr 5
    simp only [Nat.reducePow]
    split
    · rfl
    · omega
  · have key := uscale_ne x H L s g _ _ _ _ hx hH hs rfl rfl rfl rfl hi64 (by omega) (by omega) hne w c0 c2
    have hu : usc x H L s = _ := if_pos hne
    rw [hu]
    exact key
end Go.Proofs.YtcfknhboicomjaaGreatDoor.Ft
