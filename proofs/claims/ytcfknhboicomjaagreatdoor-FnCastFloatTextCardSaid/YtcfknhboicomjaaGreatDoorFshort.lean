/- The walk of strconv.shortFloat[float64] (printed by wip/fshort.py). -/
import Derived.Test.YtcfknhboicomjaaGreatDoorFpre
import Derived.Test.YtcfknhboicomjaaGreatDoorShort3
import Derived.WalkKit
import Derived.Lib.Hide
import Derived.BigQuiet
import Derived.Below
namespace Go.Proofs.YtcfknhboicomjaaGreatDoor.Ft
open Go.RowKit Fy
open Go.Proofs.YtcfknhboicomjaaGreatDoorW.PrintWords (blk_set blk_cell blk_frozen blk_far blk_lt)

theorem and_one_i (a : Nat) (ha : a < 9223372036854775808) : bits .and .i64 (a : Int) 1 = ((a % 2 : Nat) : Int) := by
  have hx : a &&& 1 < 2 ^ 63 := Nat.and_lt_two_pow _ (by omega)
  have h1 : (BitVec.ofInt 64 (a : Int)).toNat = a := by
    rw [BitVec.ofInt_natCast, BitVec.toNat_ofNat]; exact Nat.mod_eq_of_lt (by omega)
  have h2 : (BitVec.ofInt 64 1).toNat = 1 := by decide
  show IntKind.i64.wrap ((BitVec.ofInt 64 (a : Int) &&& BitVec.ofInt 64 1).toNat : Int) = _
  rw [BitVec.toNat_and, h1, h2, IntKind.wrap_i64, ← Nat.and_one_is_mod]
  omega

/-- The scaler that shortFloat keeps: its cells; the older memory is as it was. -/
structure Sc (w0 w : World) (g : Nat) (H L s : Nat) : Prop where
  c0 : w.cell? ⟨g, 0, none⟩ = some (.int .u64 H)
  c1 : w.cell? ⟨g, 1, none⟩ = some (.int .u64 L)
  c2 : w.cell? ⟨g, 2, none⟩ = some (.int .i64 s)
  below : Below w0.heap.size w0 w

theorem uscale_sc {w0 w : World} {g H L s : Nat} (h : Sc w0 w g H L s) (x y : Nat) (hy : usc x H L s = y) (hx : x < 18446744073709551616) (hH : H < 18446744073709551616) (hL : L < 18446744073709551616) (hs : s < 64) :
    Calls Tryz.prog 122 #[.int .u64 x, .pointer (some ⟨g, 0, none⟩)] w fun e w' => e = .returned (.int .u64 y) ∧ Sc w0 w' g H L s := by
  refine (uscale_any x H L s g hx hH hL hs w h.c0 h.c1 h.c2).mono ?_
  rintro e w' ⟨rfl, n, rfl⟩
  exact ⟨by rw [hy], h.c0, h.c1, h.c2, h.below.trans ⟨rfl, rfl, rfl, Nat.le_refl _, fun _ _ => rfl⟩⟩
theorem prescale_new (e p lp : Int) (S : Nat) (hp0 : -348 ≤ p) (hp1 : p ≤ 347) (he0 : -100000 ≤ e) (he1 : e ≤ 100000) (hl0 : -100000 ≤ lp) (hl1 : lp ≤ 100000) (hS : -(e + lp + 3) = S) (w : World) (ht : TenAt w) :
    Calls Tryz.prog 120 #[.pointer (some ⟨w.heap.size, 0, none⟩), .int .i64 e, .int .i64 p, .int .i64 lp] (w.alloc (.cells #[.int .u64 0, .int .u64 0, .int .i64 0] 193)) fun x w' => x = .returned (.tuple #[]) ∧ Sc w w' w.heap.size (rowOf p).1 (rowOf p).2 S := by
  obtain ⟨t1, t2⟩ := ht p hp0 hp1
  have hlt : 5 < w.heap.size := by
    rcases Nat.lt_or_ge 5 w.heap.size with h' | h'
    · exact h'
    · simp [World.cell?, Array.getElem?_eq_none h'] at t1
  obtain ⟨i, hi⟩ : ∃ i, (p + 348).toNat = i := ⟨_, rfl⟩
  rw [hi] at t1 t2
  have hb : (w.alloc (.cells #[.int .u64 0, .int .u64 0, .int .i64 0] 193)).heap[w.heap.size]? = some (.cells #[.int .u64 0, .int .u64 0, .int .i64 0] 193 (0, 0)) := by simpa using heap_alloc_new w _
  have hB : Below w.heap.size w (w.alloc (.cells #[.int .u64 0, .int .u64 0, .int .i64 0] 193)) := (Below.refl _ _).alloc (Nat.le_refl _) _
  refine (prescale_any w.heap.size 0 0 0 e p lp (rowOf p).1 (rowOf p).2 i S (by omega) (by omega) he0 he1 hl0 hl1 hS (w.alloc (.cells #[.int .u64 0, .int .u64 0, .int .i64 0] 193)) (by omega) hb ((hB.cell hlt).trans t1) ((hB.cell hlt).trans t2)).mono ?_
  rintro x w' ⟨rfl, rfl⟩
  have hb1 := blk_set hb 0 (.int .u64 (rowOf p).1)
  have hb2 := blk_set hb1 1 (.int .u64 (rowOf p).2)
  have hb3 := blk_set hb2 2 (.int .i64 (S : Int))
  exact ⟨rfl, (blk_cell hb3 0).trans rfl, (blk_cell hb3 1).trans rfl, (blk_cell hb3 2).trans rfl, ((hB.setCell (by simp) _).setCell (by simp) _).setCell (by simp) _⟩
set_option maxRecDepth 100000 in
set_option maxHeartbeats 4000000 in
theorem short_Bt (m : Nat) (e p : Int) (z mn mx o S uLo uHi uM lo hi D D10 rM : Nat) (hm64 : m < 18446744073709551616) (hp0 : -348 ≤ p) (hp1 : p ≤ 347) (he0 : -1137 ≤ e) (he1 : e ≤ 960) (hS : -(e + l2 p + 3) = (S : Int)) (hs64 : S < 64)
    (hmn64 : mn < 18446744073709551616) (hmx64 : mx < 18446744073709551616) (ho : o = m / 2 ^ z % 2) (huL : usc mn (rowOf p).1 (rowOf p).2 S = uLo) (huH : usc mx (rowOf p).1 (rowOf p).2 S = uHi) (huM : usc m (rowOf p).1 (rowOf p).2 S = uM)
    (bL : uLo < 2305843009213693952) (bH : uHi < 2305843009213693952) (bM : uM < 2305843009213693952) (uo : 1 ≤ uHi) (hlo : (uLo + o + 3) / 4 = lo) (hhi : (uHi - o) / 4 = hi) (hD : hi / 10 = D) (hD10 : D * 10 = D10) (hrM : rnd uM = rM)
    (hmn : mn = m - 2 ^ (z - 1)) (hmx : mx = m + 2 ^ (z - 1)) (hle : 2 ^ (z - 1) ≤ m) (hz : z = 11) (hge : -1085 ≤ e) (hlgp : lg (e + 11) = -p) (hm63 : m = 9223372036854775808) (hns : e ≤ -1085) (w : World) (ht : TenAt w) :
    Calls Tryz.prog 109 #[.int .u64 m, .int .i64 e] w fun x w' => x = .returned (.tuple #[.int .u64 (if lo ≤ D10 then D else if lo < hi then rM else lo : Nat), .int .i64 (if lo ≤ D10 then 1 - p else -p)]) ∧ Below w.heap.size w w' := by
  obtain ⟨H, hHd⟩ : ∃ H, (rowOf p).1 = H := ⟨_, rfl⟩
  obtain ⟨L, hLd⟩ : ∃ H, (rowOf p).2 = H := ⟨_, rfl⟩
  have hrow := row_ok p hp0 hp1
  simp only [rowOk, Bool.and_eq_true, decide_eq_true_eq] at hrow
  have hH : H < 18446744073709551616 := by rw [← hHd]; exact hrow.1.1.1.1.1.1
  have hL : L < 18446744073709551616 := by rw [← hLd]; exact hrow.1.1.1.1.1.2
  clear hrow
  have hl2r : -2000 ≤ l2 p ∧ l2 p ≤ 2000 := by unfold l2; omega
  have hpre := prescale_new e p (l2 p) S hp0 hp1 (by omega) (by omega) (by omega) (by omega) hS w ht
  rw [hHd] at huL huH huM
  rw [hLd] at huL huH huM
  rw [hHd, hLd] at hpre
  clear hHd hLd
  have hl2 := fun w => l2_any p (by omega) (by omega) w
  have ho1 : o ≤ 1 := by omega
  have no : IntKind.i64.wrap (-(o : Int)) = -(o : Int) := wrapI (by omega) (by omega)
  have hnl := fun w => nudge_any uLo (uLo + o) (o : Int) (by omega) (by omega) (by omega) w (by omega) (by omega)
  have hnh := fun w => nudge_any uHi (uHi - o) (-(o : Int)) (by omega) (by omega) (by omega) w (by omega) (by omega)
  have hce := fun w => ceil_any (uLo + o) (by omega) w
  have hfl := fun w => floor_any (uHi - o) (by omega) w
  have hrd := fun w => round_any uM (by omega) w
  rw [hlo] at hce
  rw [hhi] at hfl
  rw [hrM] at hrd
  obtain ⟨vL, hvL⟩ : ∃ v, uLo + o = v := ⟨_, rfl⟩
  obtain ⟨vH, hvH⟩ : ∃ v, uHi - o = v := ⟨_, rfl⟩
  rw [hvL] at hnl hce
  rw [hvH] at hnh hfl
  have d1 : (hi : Int) / 10 = (D : Int) := by omega
  have d2 : (hi : Int).tdiv 10 = (D : Int) := by rw [Int.tdiv_eq_ediv_of_nonneg (by omega)]; exact d1
  have d4 : IntKind.u64.wrap (D : Int) = (D : Int) := wrapU (by omega) (by omega)
  have d3 : IntKind.u64.wrap ((D : Int) * 10) = ((D10 : Nat) : Int) := by rw [wrapU (by omega) (by omega)]; omega
  subst hz
  have hlg := fun w => lg_any (e + 11) (by omega) (by omega) w
  rw [hlgp] at hlg
  have a1 : IntKind.i64.wrap (e + 11) = e + 11 := wrapI (by omega) (by omega)
  have a2 : IntKind.i64.wrap (-(-p)) = p := by rw [wrapI (by omega) (by omega)]; omega
  have a3 : IntKind.u64.wrap ((m : Int) - 1024) = (mn : Int) := by rw [hmn]; rw [wrapU (by omega) (by omega)]; omega
  have a4 : IntKind.u64.wrap ((m : Int) + 1024) = (mx : Int) := by rw [hmx]; rw [wrapU (by omega) (by omega)]; omega
  have a6 : bits .and .i64 ((m : Int) / 2048) 1 = (o : Int) := by
    have := and_one_i (m / 2048) (by omega)
    rw [ho, ← this]; rfl
  have a7 : IntKind.i64.wrap ((m : Int) / 2048) = (m : Int) / 2048 := wrapI (by omega) (by omega)
  have g1 : decide (-1085 ≤ e) = true := decide_eq_true hge
  have g2 : (m = 9223372036854775808) = True := eq_true hm63
  have g4 : ((m : Int) = 9223372036854775808) = True := by rw [← g2]; apply propext; omega
  have g5 : ((m : Int) == 9223372036854775808) = true := by simp [g4]
  have g3 : decide (-1085 < e) = false := by simp; exact hns
  have n1 : IntKind.i64.wrap (p - 1) = p - 1 := wrapI (by omega) (by omega)
  have n2 : IntKind.i64.wrap (-(p - 1)) = 1 - p := by rw [wrapI (by omega) (by omega)]; omega
  have n3 : IntKind.i64.wrap (-p) = -p := wrapI (by omega) (by omega)
  clear hvL hvH ht hS bL bH bM hlo hhi hrM hl2r hmn hmx ho hm63
  by_cases k1 : lo ≤ D10
  · have k1' : decide (lo ≤ D10) = true := decide_eq_true k1
    have k1'' : decide ((lo : Int) ≤ (D10 : Int)) = true := decide_eq_true (by omega)
    rw [if_pos k1, if_pos k1]
    go_enter Tryz.func109, Tryz.ntmps109
    go_wp2_with (first | (go_at_call 119; (with_reducible refine (hsk _).mono ?_); rintro e w1 ⟨rfl, rfl⟩) | (go_at_call 104; (with_reducible refine (hlg _).mono ?_); rintro e w1 ⟨rfl, rfl⟩) | (go_at_call 121; (with_reducible refine (hl2 _).mono ?_); rintro e w1 ⟨rfl, rfl⟩) | (go_at_call 120; (with_reducible refine hpre.mono ?_); rintro e w1 ⟨rfl, hS1⟩) | (go_at_call 122; (with_reducible refine (uscale_sc (by assumption) mn uLo huL hmn64 hH hL hs64).mono ?_); rintro e w1 ⟨rfl, hS1⟩) | (go_at_call 122; (with_reducible refine (uscale_sc (by assumption) mx uHi huH hmx64 hH hL hs64).mono ?_); rintro e w1 ⟨rfl, hS1⟩) | (go_at_call 122; (with_reducible refine (uscale_sc (by assumption) m uM huM hm64 hH hL hs64).mono ?_); rintro e w1 ⟨rfl, hS1⟩) | (go_at_call 123; (with_reducible refine (hnl _).mono ?_); rintro e w1 ⟨rfl, rfl⟩) | (go_at_call 123; (with_reducible refine (hnh _).mono ?_); rintro e w1 ⟨rfl, rfl⟩) | (go_at_call 124; (with_reducible refine (hce _).mono ?_); rintro e w1 ⟨rfl, rfl⟩) | (go_at_call 125; (with_reducible refine (hfl _).mono ?_); rintro e w1 ⟨rfl, rfl⟩) | (go_at_call 126; (with_reducible refine (hrd _).mono ?_); rintro e w1 ⟨rfl, rfl⟩))
    go_ret2
    exact ⟨rfl, Sc.below (by assumption)⟩
  · have k1' : decide (lo ≤ D10) = false := decide_eq_false k1
    have k1'' : decide ((lo : Int) ≤ (D10 : Int)) = false := decide_eq_false (by omega)
    rw [if_neg k1, if_neg k1]
    by_cases k2 : lo < hi
    · have k2' : decide (lo < hi) = true := decide_eq_true k2
      have k2'' : decide ((lo : Int) < (hi : Int)) = true := decide_eq_true (by omega)
      rw [if_pos k2]
      go_enter Tryz.func109, Tryz.ntmps109
      go_wp2_with (first | (go_at_call 119; (with_reducible refine (hsk _).mono ?_); rintro e w1 ⟨rfl, rfl⟩) | (go_at_call 104; (with_reducible refine (hlg _).mono ?_); rintro e w1 ⟨rfl, rfl⟩) | (go_at_call 121; (with_reducible refine (hl2 _).mono ?_); rintro e w1 ⟨rfl, rfl⟩) | (go_at_call 120; (with_reducible refine hpre.mono ?_); rintro e w1 ⟨rfl, hS1⟩) | (go_at_call 122; (with_reducible refine (uscale_sc (by assumption) mn uLo huL hmn64 hH hL hs64).mono ?_); rintro e w1 ⟨rfl, hS1⟩) | (go_at_call 122; (with_reducible refine (uscale_sc (by assumption) mx uHi huH hmx64 hH hL hs64).mono ?_); rintro e w1 ⟨rfl, hS1⟩) | (go_at_call 122; (with_reducible refine (uscale_sc (by assumption) m uM huM hm64 hH hL hs64).mono ?_); rintro e w1 ⟨rfl, hS1⟩) | (go_at_call 123; (with_reducible refine (hnl _).mono ?_); rintro e w1 ⟨rfl, rfl⟩) | (go_at_call 123; (with_reducible refine (hnh _).mono ?_); rintro e w1 ⟨rfl, rfl⟩) | (go_at_call 124; (with_reducible refine (hce _).mono ?_); rintro e w1 ⟨rfl, rfl⟩) | (go_at_call 125; (with_reducible refine (hfl _).mono ?_); rintro e w1 ⟨rfl, rfl⟩) | (go_at_call 126; (with_reducible refine (hrd _).mono ?_); rintro e w1 ⟨rfl, rfl⟩))
      go_ret2
      exact ⟨rfl, Sc.below (by assumption)⟩
    · have k2' : decide (lo < hi) = false := decide_eq_false k2
      have k2'' : decide ((lo : Int) < (hi : Int)) = false := decide_eq_false (by omega)
      rw [if_neg k2]
      go_enter Tryz.func109, Tryz.ntmps109
      go_wp2_with (first | (go_at_call 119; (with_reducible refine (hsk _).mono ?_); rintro e w1 ⟨rfl, rfl⟩) | (go_at_call 104; (with_reducible refine (hlg _).mono ?_); rintro e w1 ⟨rfl, rfl⟩) | (go_at_call 121; (with_reducible refine (hl2 _).mono ?_); rintro e w1 ⟨rfl, rfl⟩) | (go_at_call 120; (with_reducible refine hpre.mono ?_); rintro e w1 ⟨rfl, hS1⟩) | (go_at_call 122; (with_reducible refine (uscale_sc (by assumption) mn uLo huL hmn64 hH hL hs64).mono ?_); rintro e w1 ⟨rfl, hS1⟩) | (go_at_call 122; (with_reducible refine (uscale_sc (by assumption) mx uHi huH hmx64 hH hL hs64).mono ?_); rintro e w1 ⟨rfl, hS1⟩) | (go_at_call 122; (with_reducible refine (uscale_sc (by assumption) m uM huM hm64 hH hL hs64).mono ?_); rintro e w1 ⟨rfl, hS1⟩) | (go_at_call 123; (with_reducible refine (hnl _).mono ?_); rintro e w1 ⟨rfl, rfl⟩) | (go_at_call 123; (with_reducible refine (hnh _).mono ?_); rintro e w1 ⟨rfl, rfl⟩) | (go_at_call 124; (with_reducible refine (hce _).mono ?_); rintro e w1 ⟨rfl, rfl⟩) | (go_at_call 125; (with_reducible refine (hfl _).mono ?_); rintro e w1 ⟨rfl, rfl⟩) | (go_at_call 126; (with_reducible refine (hrd _).mono ?_); rintro e w1 ⟨rfl, rfl⟩))
      go_ret2
      exact ⟨rfl, Sc.below (by assumption)⟩
set_option maxRecDepth 100000 in
set_option maxHeartbeats 4000000 in
theorem short_Bf (m : Nat) (e p : Int) (z mn mx o S uLo uHi uM lo hi D D10 rM : Nat) (hm64 : m < 18446744073709551616) (hp0 : -348 ≤ p) (hp1 : p ≤ 347) (he0 : -1137 ≤ e) (he1 : e ≤ 960) (hS : -(e + l2 p + 3) = (S : Int)) (hs64 : S < 64)
    (hmn64 : mn < 18446744073709551616) (hmx64 : mx < 18446744073709551616) (ho : o = m / 2 ^ z % 2) (huL : usc mn (rowOf p).1 (rowOf p).2 S = uLo) (huH : usc mx (rowOf p).1 (rowOf p).2 S = uHi) (huM : usc m (rowOf p).1 (rowOf p).2 S = uM)
    (bL : uLo < 2305843009213693952) (bH : uHi < 2305843009213693952) (bM : uM < 2305843009213693952) (uo : 1 ≤ uHi) (hlo : (uLo + o + 3) / 4 = lo) (hhi : (uHi - o) / 4 = hi) (hD : hi / 10 = D) (hD10 : D * 10 = D10) (hrM : rnd uM = rM)
    (hmn : mn = m - 2 ^ (z - 1)) (hmx : mx = m + 2 ^ (z - 1)) (hle : 2 ^ (z - 1) ≤ m) (hz : z = 11) (hge : -1085 ≤ e) (hlgp : lg (e + 11) = -p) (hm63 : ¬ (m = 9223372036854775808)) (w : World) (ht : TenAt w) :
    Calls Tryz.prog 109 #[.int .u64 m, .int .i64 e] w fun x w' => x = .returned (.tuple #[.int .u64 (if lo ≤ D10 then D else if lo < hi then rM else lo : Nat), .int .i64 (if lo ≤ D10 then 1 - p else -p)]) ∧ Below w.heap.size w w' := by
  obtain ⟨H, hHd⟩ : ∃ H, (rowOf p).1 = H := ⟨_, rfl⟩
  obtain ⟨L, hLd⟩ : ∃ H, (rowOf p).2 = H := ⟨_, rfl⟩
  have hrow := row_ok p hp0 hp1
  simp only [rowOk, Bool.and_eq_true, decide_eq_true_eq] at hrow
  have hH : H < 18446744073709551616 := by rw [← hHd]; exact hrow.1.1.1.1.1.1
  have hL : L < 18446744073709551616 := by rw [← hLd]; exact hrow.1.1.1.1.1.2
  clear hrow
  have hl2r : -2000 ≤ l2 p ∧ l2 p ≤ 2000 := by unfold l2; omega
  have hpre := prescale_new e p (l2 p) S hp0 hp1 (by omega) (by omega) (by omega) (by omega) hS w ht
  rw [hHd] at huL huH huM
  rw [hLd] at huL huH huM
  rw [hHd, hLd] at hpre
  clear hHd hLd
  have hl2 := fun w => l2_any p (by omega) (by omega) w
  have ho1 : o ≤ 1 := by omega
  have no : IntKind.i64.wrap (-(o : Int)) = -(o : Int) := wrapI (by omega) (by omega)
  have hnl := fun w => nudge_any uLo (uLo + o) (o : Int) (by omega) (by omega) (by omega) w (by omega) (by omega)
  have hnh := fun w => nudge_any uHi (uHi - o) (-(o : Int)) (by omega) (by omega) (by omega) w (by omega) (by omega)
  have hce := fun w => ceil_any (uLo + o) (by omega) w
  have hfl := fun w => floor_any (uHi - o) (by omega) w
  have hrd := fun w => round_any uM (by omega) w
  rw [hlo] at hce
  rw [hhi] at hfl
  rw [hrM] at hrd
  obtain ⟨vL, hvL⟩ : ∃ v, uLo + o = v := ⟨_, rfl⟩
  obtain ⟨vH, hvH⟩ : ∃ v, uHi - o = v := ⟨_, rfl⟩
  rw [hvL] at hnl hce
  rw [hvH] at hnh hfl
  have d1 : (hi : Int) / 10 = (D : Int) := by omega
  have d2 : (hi : Int).tdiv 10 = (D : Int) := by rw [Int.tdiv_eq_ediv_of_nonneg (by omega)]; exact d1
  have d4 : IntKind.u64.wrap (D : Int) = (D : Int) := wrapU (by omega) (by omega)
  have d3 : IntKind.u64.wrap ((D : Int) * 10) = ((D10 : Nat) : Int) := by rw [wrapU (by omega) (by omega)]; omega
  subst hz
  have hlg := fun w => lg_any (e + 11) (by omega) (by omega) w
  rw [hlgp] at hlg
  have a1 : IntKind.i64.wrap (e + 11) = e + 11 := wrapI (by omega) (by omega)
  have a2 : IntKind.i64.wrap (-(-p)) = p := by rw [wrapI (by omega) (by omega)]; omega
  have a3 : IntKind.u64.wrap ((m : Int) - 1024) = (mn : Int) := by rw [hmn]; rw [wrapU (by omega) (by omega)]; omega
  have a4 : IntKind.u64.wrap ((m : Int) + 1024) = (mx : Int) := by rw [hmx]; rw [wrapU (by omega) (by omega)]; omega
  have a6 : bits .and .i64 ((m : Int) / 2048) 1 = (o : Int) := by
    have := and_one_i (m / 2048) (by omega)
    rw [ho, ← this]; rfl
  have a7 : IntKind.i64.wrap ((m : Int) / 2048) = (m : Int) / 2048 := wrapI (by omega) (by omega)
  have g1 : decide (-1085 ≤ e) = true := decide_eq_true hge
  have g2 : (m = 9223372036854775808) = False := eq_false hm63
  have g4 : ((m : Int) = 9223372036854775808) = False := by rw [← g2]; apply propext; omega
  have g5 : ((m : Int) == 9223372036854775808) = false := by simp [g4]
  have n1 : IntKind.i64.wrap (p - 1) = p - 1 := wrapI (by omega) (by omega)
  have n2 : IntKind.i64.wrap (-(p - 1)) = 1 - p := by rw [wrapI (by omega) (by omega)]; omega
  have n3 : IntKind.i64.wrap (-p) = -p := wrapI (by omega) (by omega)
  clear hvL hvH ht hS bL bH bM hlo hhi hrM hl2r hmn hmx ho hm63
  by_cases k1 : lo ≤ D10
  · have k1' : decide (lo ≤ D10) = true := decide_eq_true k1
    have k1'' : decide ((lo : Int) ≤ (D10 : Int)) = true := decide_eq_true (by omega)
    rw [if_pos k1, if_pos k1]
    go_enter Tryz.func109, Tryz.ntmps109
    go_wp2_with (first | (go_at_call 119; (with_reducible refine (hsk _).mono ?_); rintro e w1 ⟨rfl, rfl⟩) | (go_at_call 104; (with_reducible refine (hlg _).mono ?_); rintro e w1 ⟨rfl, rfl⟩) | (go_at_call 121; (with_reducible refine (hl2 _).mono ?_); rintro e w1 ⟨rfl, rfl⟩) | (go_at_call 120; (with_reducible refine hpre.mono ?_); rintro e w1 ⟨rfl, hS1⟩) | (go_at_call 122; (with_reducible refine (uscale_sc (by assumption) mn uLo huL hmn64 hH hL hs64).mono ?_); rintro e w1 ⟨rfl, hS1⟩) | (go_at_call 122; (with_reducible refine (uscale_sc (by assumption) mx uHi huH hmx64 hH hL hs64).mono ?_); rintro e w1 ⟨rfl, hS1⟩) | (go_at_call 122; (with_reducible refine (uscale_sc (by assumption) m uM huM hm64 hH hL hs64).mono ?_); rintro e w1 ⟨rfl, hS1⟩) | (go_at_call 123; (with_reducible refine (hnl _).mono ?_); rintro e w1 ⟨rfl, rfl⟩) | (go_at_call 123; (with_reducible refine (hnh _).mono ?_); rintro e w1 ⟨rfl, rfl⟩) | (go_at_call 124; (with_reducible refine (hce _).mono ?_); rintro e w1 ⟨rfl, rfl⟩) | (go_at_call 125; (with_reducible refine (hfl _).mono ?_); rintro e w1 ⟨rfl, rfl⟩) | (go_at_call 126; (with_reducible refine (hrd _).mono ?_); rintro e w1 ⟨rfl, rfl⟩))
    go_ret2
    exact ⟨rfl, Sc.below (by assumption)⟩
  · have k1' : decide (lo ≤ D10) = false := decide_eq_false k1
    have k1'' : decide ((lo : Int) ≤ (D10 : Int)) = false := decide_eq_false (by omega)
    rw [if_neg k1, if_neg k1]
    by_cases k2 : lo < hi
    · have k2' : decide (lo < hi) = true := decide_eq_true k2
      have k2'' : decide ((lo : Int) < (hi : Int)) = true := decide_eq_true (by omega)
      rw [if_pos k2]
      go_enter Tryz.func109, Tryz.ntmps109
      go_wp2_with (first | (go_at_call 119; (with_reducible refine (hsk _).mono ?_); rintro e w1 ⟨rfl, rfl⟩) | (go_at_call 104; (with_reducible refine (hlg _).mono ?_); rintro e w1 ⟨rfl, rfl⟩) | (go_at_call 121; (with_reducible refine (hl2 _).mono ?_); rintro e w1 ⟨rfl, rfl⟩) | (go_at_call 120; (with_reducible refine hpre.mono ?_); rintro e w1 ⟨rfl, hS1⟩) | (go_at_call 122; (with_reducible refine (uscale_sc (by assumption) mn uLo huL hmn64 hH hL hs64).mono ?_); rintro e w1 ⟨rfl, hS1⟩) | (go_at_call 122; (with_reducible refine (uscale_sc (by assumption) mx uHi huH hmx64 hH hL hs64).mono ?_); rintro e w1 ⟨rfl, hS1⟩) | (go_at_call 122; (with_reducible refine (uscale_sc (by assumption) m uM huM hm64 hH hL hs64).mono ?_); rintro e w1 ⟨rfl, hS1⟩) | (go_at_call 123; (with_reducible refine (hnl _).mono ?_); rintro e w1 ⟨rfl, rfl⟩) | (go_at_call 123; (with_reducible refine (hnh _).mono ?_); rintro e w1 ⟨rfl, rfl⟩) | (go_at_call 124; (with_reducible refine (hce _).mono ?_); rintro e w1 ⟨rfl, rfl⟩) | (go_at_call 125; (with_reducible refine (hfl _).mono ?_); rintro e w1 ⟨rfl, rfl⟩) | (go_at_call 126; (with_reducible refine (hrd _).mono ?_); rintro e w1 ⟨rfl, rfl⟩))
      go_ret2
      exact ⟨rfl, Sc.below (by assumption)⟩
    · have k2' : decide (lo < hi) = false := decide_eq_false k2
      have k2'' : decide ((lo : Int) < (hi : Int)) = false := decide_eq_false (by omega)
      rw [if_neg k2]
      go_enter Tryz.func109, Tryz.ntmps109
      go_wp2_with (first | (go_at_call 119; (with_reducible refine (hsk _).mono ?_); rintro e w1 ⟨rfl, rfl⟩) | (go_at_call 104; (with_reducible refine (hlg _).mono ?_); rintro e w1 ⟨rfl, rfl⟩) | (go_at_call 121; (with_reducible refine (hl2 _).mono ?_); rintro e w1 ⟨rfl, rfl⟩) | (go_at_call 120; (with_reducible refine hpre.mono ?_); rintro e w1 ⟨rfl, hS1⟩) | (go_at_call 122; (with_reducible refine (uscale_sc (by assumption) mn uLo huL hmn64 hH hL hs64).mono ?_); rintro e w1 ⟨rfl, hS1⟩) | (go_at_call 122; (with_reducible refine (uscale_sc (by assumption) mx uHi huH hmx64 hH hL hs64).mono ?_); rintro e w1 ⟨rfl, hS1⟩) | (go_at_call 122; (with_reducible refine (uscale_sc (by assumption) m uM huM hm64 hH hL hs64).mono ?_); rintro e w1 ⟨rfl, hS1⟩) | (go_at_call 123; (with_reducible refine (hnl _).mono ?_); rintro e w1 ⟨rfl, rfl⟩) | (go_at_call 123; (with_reducible refine (hnh _).mono ?_); rintro e w1 ⟨rfl, rfl⟩) | (go_at_call 124; (with_reducible refine (hce _).mono ?_); rintro e w1 ⟨rfl, rfl⟩) | (go_at_call 125; (with_reducible refine (hfl _).mono ?_); rintro e w1 ⟨rfl, rfl⟩) | (go_at_call 126; (with_reducible refine (hrd _).mono ?_); rintro e w1 ⟨rfl, rfl⟩))
      go_ret2
      exact ⟨rfl, Sc.below (by assumption)⟩
set_option maxRecDepth 100000 in
set_option maxHeartbeats 4000000 in
theorem short_A (m : Nat) (e p : Int) (z mn mx o S uLo uHi uM lo hi D D10 rM : Nat) (hm64 : m < 18446744073709551616) (hp0 : -348 ≤ p) (hp1 : p ≤ 347) (he0 : -1137 ≤ e) (he1 : e ≤ 960) (hS : -(e + l2 p + 3) = (S : Int)) (hs64 : S < 64)
    (hmn64 : mn < 18446744073709551616) (hmx64 : mx < 18446744073709551616) (ho : o = m / 2 ^ z % 2) (huL : usc mn (rowOf p).1 (rowOf p).2 S = uLo) (huH : usc mx (rowOf p).1 (rowOf p).2 S = uHi) (huM : usc m (rowOf p).1 (rowOf p).2 S = uM)
    (bL : uLo < 2305843009213693952) (bH : uHi < 2305843009213693952) (bM : uM < 2305843009213693952) (uo : 1 ≤ uHi) (hlo : (uLo + o + 3) / 4 = lo) (hhi : (uHi - o) / 4 = hi) (hD : hi / 10 = D) (hD10 : D * 10 = D10) (hrM : rnd uM = rM)
    (hmn : mn = m - 2 ^ (z - 2)) (hmx : mx = m + 2 ^ (z - 1)) (hle : 2 ^ (z - 1) ≤ m) (hz : z = 11) (hm63 : m = 9223372036854775808) (hns : -1085 < e) (hskp : sk (e + 11) = -p) (w : World) (ht : TenAt w) :
    Calls Tryz.prog 109 #[.int .u64 m, .int .i64 e] w fun x w' => x = .returned (.tuple #[.int .u64 (if lo ≤ D10 then D else if lo < hi then rM else lo : Nat), .int .i64 (if lo ≤ D10 then 1 - p else -p)]) ∧ Below w.heap.size w w' := by
  obtain ⟨H, hHd⟩ : ∃ H, (rowOf p).1 = H := ⟨_, rfl⟩
  obtain ⟨L, hLd⟩ : ∃ H, (rowOf p).2 = H := ⟨_, rfl⟩
  have hrow := row_ok p hp0 hp1
  simp only [rowOk, Bool.and_eq_true, decide_eq_true_eq] at hrow
  have hH : H < 18446744073709551616 := by rw [← hHd]; exact hrow.1.1.1.1.1.1
  have hL : L < 18446744073709551616 := by rw [← hLd]; exact hrow.1.1.1.1.1.2
  clear hrow
  have hl2r : -2000 ≤ l2 p ∧ l2 p ≤ 2000 := by unfold l2; omega
  have hpre := prescale_new e p (l2 p) S hp0 hp1 (by omega) (by omega) (by omega) (by omega) hS w ht
  rw [hHd] at huL huH huM
  rw [hLd] at huL huH huM
  rw [hHd, hLd] at hpre
  clear hHd hLd
  have hl2 := fun w => l2_any p (by omega) (by omega) w
  have ho1 : o ≤ 1 := by omega
  have no : IntKind.i64.wrap (-(o : Int)) = -(o : Int) := wrapI (by omega) (by omega)
  have hnl := fun w => nudge_any uLo (uLo + o) (o : Int) (by omega) (by omega) (by omega) w (by omega) (by omega)
  have hnh := fun w => nudge_any uHi (uHi - o) (-(o : Int)) (by omega) (by omega) (by omega) w (by omega) (by omega)
  have hce := fun w => ceil_any (uLo + o) (by omega) w
  have hfl := fun w => floor_any (uHi - o) (by omega) w
  have hrd := fun w => round_any uM (by omega) w
  rw [hlo] at hce
  rw [hhi] at hfl
  rw [hrM] at hrd
  obtain ⟨vL, hvL⟩ : ∃ v, uLo + o = v := ⟨_, rfl⟩
  obtain ⟨vH, hvH⟩ : ∃ v, uHi - o = v := ⟨_, rfl⟩
  rw [hvL] at hnl hce
  rw [hvH] at hnh hfl
  have d1 : (hi : Int) / 10 = (D : Int) := by omega
  have d2 : (hi : Int).tdiv 10 = (D : Int) := by rw [Int.tdiv_eq_ediv_of_nonneg (by omega)]; exact d1
  have d4 : IntKind.u64.wrap (D : Int) = (D : Int) := wrapU (by omega) (by omega)
  have d3 : IntKind.u64.wrap ((D : Int) * 10) = ((D10 : Nat) : Int) := by rw [wrapU (by omega) (by omega)]; omega
  subst hz
  have hsk := fun w => sk_any (e + 11) (by omega) (by omega) w
  rw [hskp] at hsk
  have a1 : IntKind.i64.wrap (e + 11) = e + 11 := wrapI (by omega) (by omega)
  have a2 : IntKind.i64.wrap (-(-p)) = p := by rw [wrapI (by omega) (by omega)]; omega
  have a3 : IntKind.u64.wrap ((m : Int) - 512) = (mn : Int) := by rw [hmn]; rw [wrapU (by omega) (by omega)]; omega
  have a4 : IntKind.u64.wrap ((m : Int) + 1024) = (mx : Int) := by rw [hmx]; rw [wrapU (by omega) (by omega)]; omega
  have a6 : bits .and .i64 ((m : Int) / 2048) 1 = (o : Int) := by
    have := and_one_i (m / 2048) (by omega)
    rw [ho, ← this]; rfl
  have a7 : IntKind.i64.wrap ((m : Int) / 2048) = (m : Int) / 2048 := wrapI (by omega) (by omega)
  have g2 : (m = 9223372036854775808) = True := eq_true hm63
  have g4 : ((m : Int) = 9223372036854775808) = True := by rw [← g2]; apply propext; omega
  have g5 : ((m : Int) == 9223372036854775808) = true := by simp [g4]
  have g3 : decide (-1085 < e) = true := decide_eq_true hns
  have n1 : IntKind.i64.wrap (p - 1) = p - 1 := wrapI (by omega) (by omega)
  have n2 : IntKind.i64.wrap (-(p - 1)) = 1 - p := by rw [wrapI (by omega) (by omega)]; omega
  have n3 : IntKind.i64.wrap (-p) = -p := wrapI (by omega) (by omega)
  clear hvL hvH ht hS bL bH bM hlo hhi hrM hl2r hmn hmx ho hm63
  by_cases k1 : lo ≤ D10
  · have k1' : decide (lo ≤ D10) = true := decide_eq_true k1
    have k1'' : decide ((lo : Int) ≤ (D10 : Int)) = true := decide_eq_true (by omega)
    rw [if_pos k1, if_pos k1]
    go_enter Tryz.func109, Tryz.ntmps109
    go_wp2_with (first | (go_at_call 119; (with_reducible refine (hsk _).mono ?_); rintro e w1 ⟨rfl, rfl⟩) | (go_at_call 104; (with_reducible refine (hlg _).mono ?_); rintro e w1 ⟨rfl, rfl⟩) | (go_at_call 121; (with_reducible refine (hl2 _).mono ?_); rintro e w1 ⟨rfl, rfl⟩) | (go_at_call 120; (with_reducible refine hpre.mono ?_); rintro e w1 ⟨rfl, hS1⟩) | (go_at_call 122; (with_reducible refine (uscale_sc (by assumption) mn uLo huL hmn64 hH hL hs64).mono ?_); rintro e w1 ⟨rfl, hS1⟩) | (go_at_call 122; (with_reducible refine (uscale_sc (by assumption) mx uHi huH hmx64 hH hL hs64).mono ?_); rintro e w1 ⟨rfl, hS1⟩) | (go_at_call 122; (with_reducible refine (uscale_sc (by assumption) m uM huM hm64 hH hL hs64).mono ?_); rintro e w1 ⟨rfl, hS1⟩) | (go_at_call 123; (with_reducible refine (hnl _).mono ?_); rintro e w1 ⟨rfl, rfl⟩) | (go_at_call 123; (with_reducible refine (hnh _).mono ?_); rintro e w1 ⟨rfl, rfl⟩) | (go_at_call 124; (with_reducible refine (hce _).mono ?_); rintro e w1 ⟨rfl, rfl⟩) | (go_at_call 125; (with_reducible refine (hfl _).mono ?_); rintro e w1 ⟨rfl, rfl⟩) | (go_at_call 126; (with_reducible refine (hrd _).mono ?_); rintro e w1 ⟨rfl, rfl⟩))
    go_ret2
    exact ⟨rfl, Sc.below (by assumption)⟩
  · have k1' : decide (lo ≤ D10) = false := decide_eq_false k1
    have k1'' : decide ((lo : Int) ≤ (D10 : Int)) = false := decide_eq_false (by omega)
    rw [if_neg k1, if_neg k1]
    by_cases k2 : lo < hi
    · have k2' : decide (lo < hi) = true := decide_eq_true k2
      have k2'' : decide ((lo : Int) < (hi : Int)) = true := decide_eq_true (by omega)
      rw [if_pos k2]
      go_enter Tryz.func109, Tryz.ntmps109
      go_wp2_with (first | (go_at_call 119; (with_reducible refine (hsk _).mono ?_); rintro e w1 ⟨rfl, rfl⟩) | (go_at_call 104; (with_reducible refine (hlg _).mono ?_); rintro e w1 ⟨rfl, rfl⟩) | (go_at_call 121; (with_reducible refine (hl2 _).mono ?_); rintro e w1 ⟨rfl, rfl⟩) | (go_at_call 120; (with_reducible refine hpre.mono ?_); rintro e w1 ⟨rfl, hS1⟩) | (go_at_call 122; (with_reducible refine (uscale_sc (by assumption) mn uLo huL hmn64 hH hL hs64).mono ?_); rintro e w1 ⟨rfl, hS1⟩) | (go_at_call 122; (with_reducible refine (uscale_sc (by assumption) mx uHi huH hmx64 hH hL hs64).mono ?_); rintro e w1 ⟨rfl, hS1⟩) | (go_at_call 122; (with_reducible refine (uscale_sc (by assumption) m uM huM hm64 hH hL hs64).mono ?_); rintro e w1 ⟨rfl, hS1⟩) | (go_at_call 123; (with_reducible refine (hnl _).mono ?_); rintro e w1 ⟨rfl, rfl⟩) | (go_at_call 123; (with_reducible refine (hnh _).mono ?_); rintro e w1 ⟨rfl, rfl⟩) | (go_at_call 124; (with_reducible refine (hce _).mono ?_); rintro e w1 ⟨rfl, rfl⟩) | (go_at_call 125; (with_reducible refine (hfl _).mono ?_); rintro e w1 ⟨rfl, rfl⟩) | (go_at_call 126; (with_reducible refine (hrd _).mono ?_); rintro e w1 ⟨rfl, rfl⟩))
      go_ret2
      exact ⟨rfl, Sc.below (by assumption)⟩
    · have k2' : decide (lo < hi) = false := decide_eq_false k2
      have k2'' : decide ((lo : Int) < (hi : Int)) = false := decide_eq_false (by omega)
      rw [if_neg k2]
      go_enter Tryz.func109, Tryz.ntmps109
      go_wp2_with (first | (go_at_call 119; (with_reducible refine (hsk _).mono ?_); rintro e w1 ⟨rfl, rfl⟩) | (go_at_call 104; (with_reducible refine (hlg _).mono ?_); rintro e w1 ⟨rfl, rfl⟩) | (go_at_call 121; (with_reducible refine (hl2 _).mono ?_); rintro e w1 ⟨rfl, rfl⟩) | (go_at_call 120; (with_reducible refine hpre.mono ?_); rintro e w1 ⟨rfl, hS1⟩) | (go_at_call 122; (with_reducible refine (uscale_sc (by assumption) mn uLo huL hmn64 hH hL hs64).mono ?_); rintro e w1 ⟨rfl, hS1⟩) | (go_at_call 122; (with_reducible refine (uscale_sc (by assumption) mx uHi huH hmx64 hH hL hs64).mono ?_); rintro e w1 ⟨rfl, hS1⟩) | (go_at_call 122; (with_reducible refine (uscale_sc (by assumption) m uM huM hm64 hH hL hs64).mono ?_); rintro e w1 ⟨rfl, hS1⟩) | (go_at_call 123; (with_reducible refine (hnl _).mono ?_); rintro e w1 ⟨rfl, rfl⟩) | (go_at_call 123; (with_reducible refine (hnh _).mono ?_); rintro e w1 ⟨rfl, rfl⟩) | (go_at_call 124; (with_reducible refine (hce _).mono ?_); rintro e w1 ⟨rfl, rfl⟩) | (go_at_call 125; (with_reducible refine (hfl _).mono ?_); rintro e w1 ⟨rfl, rfl⟩) | (go_at_call 126; (with_reducible refine (hrd _).mono ?_); rintro e w1 ⟨rfl, rfl⟩))
      go_ret2
      exact ⟨rfl, Sc.below (by assumption)⟩
set_option maxRecDepth 100000 in
set_option maxHeartbeats 4000000 in
theorem short_Ct (m : Nat) (e p : Int) (z mn mx o S uLo uHi uM lo hi D D10 rM : Nat) (hm64 : m < 18446744073709551616) (hp0 : -348 ≤ p) (hp1 : p ≤ 347) (he0 : -1137 ≤ e) (he1 : e ≤ 960) (hS : -(e + l2 p + 3) = (S : Int)) (hs64 : S < 64)
    (hmn64 : mn < 18446744073709551616) (hmx64 : mx < 18446744073709551616) (ho : o = m / 2 ^ z % 2) (huL : usc mn (rowOf p).1 (rowOf p).2 S = uLo) (huH : usc mx (rowOf p).1 (rowOf p).2 S = uHi) (huM : usc m (rowOf p).1 (rowOf p).2 S = uM)
    (bL : uLo < 2305843009213693952) (bH : uHi < 2305843009213693952) (bM : uM < 2305843009213693952) (uo : 1 ≤ uHi) (hlo : (uLo + o + 3) / 4 = lo) (hhi : (uHi - o) / 4 = hi) (hD : hi / 10 = D) (hD10 : D * 10 = D10) (hrM : rnd uM = rM)
    (hmn : mn = m - 2 ^ (z - 1)) (hmx : mx = m + 2 ^ (z - 1)) (hle : 2 ^ (z - 1) ≤ m) (q : Nat) (E : Int) (hq : -1085 - e = q) (hzq : z = 11 + q) (hz63 : z ≤ 63) (hE : e + z = E) (hge : e < -1085) (hlgp : lg E = -p) (hm63 : m = 9223372036854775808) (w : World) (ht : TenAt w) :
    Calls Tryz.prog 109 #[.int .u64 m, .int .i64 e] w fun x w' => x = .returned (.tuple #[.int .u64 (if lo ≤ D10 then D else if lo < hi then rM else lo : Nat), .int .i64 (if lo ≤ D10 then 1 - p else -p)]) ∧ Below w.heap.size w w' := by
  obtain ⟨H, hHd⟩ : ∃ H, (rowOf p).1 = H := ⟨_, rfl⟩
  obtain ⟨L, hLd⟩ : ∃ H, (rowOf p).2 = H := ⟨_, rfl⟩
  have hrow := row_ok p hp0 hp1
  simp only [rowOk, Bool.and_eq_true, decide_eq_true_eq] at hrow
  have hH : H < 18446744073709551616 := by rw [← hHd]; exact hrow.1.1.1.1.1.1
  have hL : L < 18446744073709551616 := by rw [← hLd]; exact hrow.1.1.1.1.1.2
  clear hrow
  have hl2r : -2000 ≤ l2 p ∧ l2 p ≤ 2000 := by unfold l2; omega
  have hpre := prescale_new e p (l2 p) S hp0 hp1 (by omega) (by omega) (by omega) (by omega) hS w ht
  rw [hHd] at huL huH huM
  rw [hLd] at huL huH huM
  rw [hHd, hLd] at hpre
  clear hHd hLd
  have hl2 := fun w => l2_any p (by omega) (by omega) w
  have ho1 : o ≤ 1 := by omega
  have no : IntKind.i64.wrap (-(o : Int)) = -(o : Int) := wrapI (by omega) (by omega)
  have hnl := fun w => nudge_any uLo (uLo + o) (o : Int) (by omega) (by omega) (by omega) w (by omega) (by omega)
  have hnh := fun w => nudge_any uHi (uHi - o) (-(o : Int)) (by omega) (by omega) (by omega) w (by omega) (by omega)
  have hce := fun w => ceil_any (uLo + o) (by omega) w
  have hfl := fun w => floor_any (uHi - o) (by omega) w
  have hrd := fun w => round_any uM (by omega) w
  rw [hlo] at hce
  rw [hhi] at hfl
  rw [hrM] at hrd
  obtain ⟨vL, hvL⟩ : ∃ v, uLo + o = v := ⟨_, rfl⟩
  obtain ⟨vH, hvH⟩ : ∃ v, uHi - o = v := ⟨_, rfl⟩
  rw [hvL] at hnl hce
  rw [hvH] at hnh hfl
  have d1 : (hi : Int) / 10 = (D : Int) := by omega
  have d2 : (hi : Int).tdiv 10 = (D : Int) := by rw [Int.tdiv_eq_ediv_of_nonneg (by omega)]; exact d1
  have d4 : IntKind.u64.wrap (D : Int) = (D : Int) := wrapU (by omega) (by omega)
  have d3 : IntKind.u64.wrap ((D : Int) * 10) = ((D10 : Nat) : Int) := by rw [wrapU (by omega) (by omega)]; omega
  have hlg := fun w => lg_any E (by omega) (by omega) w
  rw [hlgp] at hlg
  have a0 : IntKind.i64.wrap (-1085 - e) = (q : Int) := by rw [wrapI (by omega) (by omega)]; omega
  have a01 : IntKind.i64.wrap (11 + (q : Int)) = (z : Int) := by rw [wrapI (by omega) (by omega)]; omega
  have a1 : IntKind.i64.wrap (e + (z : Int)) = E := by rw [wrapI (by omega) (by omega)]; omega
  have a2 : IntKind.i64.wrap (-(-p)) = p := by rw [wrapI (by omega) (by omega)]; omega
  obtain ⟨z1, hz1⟩ : ∃ z1, z - 1 = z1 := ⟨_, rfl⟩
  rw [hz1] at hmn hmx hle
  obtain ⟨P, hP⟩ : ∃ P, 2 ^ z1 = P := ⟨_, rfl⟩
  rw [hP] at hmn hmx hle
  have a21 : IntKind.i64.wrap ((z : Int) - 1) = (z1 : Int) := by rw [wrapI (by omega) (by omega)]; omega
  have a22 : z1 ≤ 64 := by omega
  have a23 : (z1 : Int) ≤ 64 := by omega
  have a24 : z ≤ 64 := by omega
  have a25 : (z : Int) ≤ 64 := by omega
  have a26 : IntKind.u64.wrap ((2 : Int) ^ z1) = (P : Int) := by
    have : (2 : Int) ^ z1 = (P : Int) := by rw [← hP]; norm_cast
    rw [this, wrapU (by omega) (by omega)]
  have a3 : IntKind.u64.wrap ((m : Int) - (P : Int)) = (mn : Int) := by rw [hmn]; rw [wrapU (by omega) (by omega)]; omega
  have a4 : IntKind.u64.wrap ((m : Int) + (P : Int)) = (mx : Int) := by rw [hmx]; rw [wrapU (by omega) (by omega)]; omega
  obtain ⟨mz, hmz⟩ : ∃ k, m / 2 ^ z = k := ⟨_, rfl⟩
  have a5 : (m : Int) / 2 ^ z = (mz : Int) := by rw [shr_nat, hmz]
  have hmz64 : mz < 9223372036854775808 := by
    have h2 : (2 : Nat) ^ 11 ≤ 2 ^ z := Nat.pow_le_pow_right (by omega) (by omega)
    have h3 : m / 2 ^ z ≤ m / 2 ^ 11 := Nat.div_le_div_left h2 (by decide)
    omega
  rw [hmz] at ho
  have a6 : bits .and .i64 (mz : Int) 1 = (o : Int) := by rw [and_one_i mz hmz64, ho]
  have a7 : IntKind.i64.wrap (mz : Int) = (mz : Int) := wrapI (by omega) (by omega)
  have g1 : decide (-1085 ≤ e) = false := decide_eq_false (by omega)
  have g2 : (m = 9223372036854775808) = True := eq_true hm63
  have g4 : ((m : Int) = 9223372036854775808) = True := by rw [← g2]; apply propext; omega
  have g5 : ((m : Int) == 9223372036854775808) = true := by simp [g4]
  have g3 : decide (-1085 < e) = false := decide_eq_false (by omega)
  clear hq hzq hE hmz hmz64 hP hz1 hlgp
  have n1 : IntKind.i64.wrap (p - 1) = p - 1 := wrapI (by omega) (by omega)
  have n2 : IntKind.i64.wrap (-(p - 1)) = 1 - p := by rw [wrapI (by omega) (by omega)]; omega
  have n3 : IntKind.i64.wrap (-p) = -p := wrapI (by omega) (by omega)
  clear hvL hvH ht hS bL bH bM hlo hhi hrM hl2r hmn hmx ho hm63
  by_cases k1 : lo ≤ D10
  · have k1' : decide (lo ≤ D10) = true := decide_eq_true k1
    have k1'' : decide ((lo : Int) ≤ (D10 : Int)) = true := decide_eq_true (by omega)
    rw [if_pos k1, if_pos k1]
    go_enter Tryz.func109, Tryz.ntmps109
    go_wp2_with (first | (go_at_call 119; (with_reducible refine (hsk _).mono ?_); rintro e w1 ⟨rfl, rfl⟩) | (go_at_call 104; (with_reducible refine (hlg _).mono ?_); rintro e w1 ⟨rfl, rfl⟩) | (go_at_call 121; (with_reducible refine (hl2 _).mono ?_); rintro e w1 ⟨rfl, rfl⟩) | (go_at_call 120; (with_reducible refine hpre.mono ?_); rintro e w1 ⟨rfl, hS1⟩) | (go_at_call 122; (with_reducible refine (uscale_sc (by assumption) mn uLo huL hmn64 hH hL hs64).mono ?_); rintro e w1 ⟨rfl, hS1⟩) | (go_at_call 122; (with_reducible refine (uscale_sc (by assumption) mx uHi huH hmx64 hH hL hs64).mono ?_); rintro e w1 ⟨rfl, hS1⟩) | (go_at_call 122; (with_reducible refine (uscale_sc (by assumption) m uM huM hm64 hH hL hs64).mono ?_); rintro e w1 ⟨rfl, hS1⟩) | (go_at_call 123; (with_reducible refine (hnl _).mono ?_); rintro e w1 ⟨rfl, rfl⟩) | (go_at_call 123; (with_reducible refine (hnh _).mono ?_); rintro e w1 ⟨rfl, rfl⟩) | (go_at_call 124; (with_reducible refine (hce _).mono ?_); rintro e w1 ⟨rfl, rfl⟩) | (go_at_call 125; (with_reducible refine (hfl _).mono ?_); rintro e w1 ⟨rfl, rfl⟩) | (go_at_call 126; (with_reducible refine (hrd _).mono ?_); rintro e w1 ⟨rfl, rfl⟩))
    go_ret2
    exact ⟨rfl, Sc.below (by assumption)⟩
  · have k1' : decide (lo ≤ D10) = false := decide_eq_false k1
    have k1'' : decide ((lo : Int) ≤ (D10 : Int)) = false := decide_eq_false (by omega)
    rw [if_neg k1, if_neg k1]
    by_cases k2 : lo < hi
    · have k2' : decide (lo < hi) = true := decide_eq_true k2
      have k2'' : decide ((lo : Int) < (hi : Int)) = true := decide_eq_true (by omega)
      rw [if_pos k2]
      go_enter Tryz.func109, Tryz.ntmps109
      go_wp2_with (first | (go_at_call 119; (with_reducible refine (hsk _).mono ?_); rintro e w1 ⟨rfl, rfl⟩) | (go_at_call 104; (with_reducible refine (hlg _).mono ?_); rintro e w1 ⟨rfl, rfl⟩) | (go_at_call 121; (with_reducible refine (hl2 _).mono ?_); rintro e w1 ⟨rfl, rfl⟩) | (go_at_call 120; (with_reducible refine hpre.mono ?_); rintro e w1 ⟨rfl, hS1⟩) | (go_at_call 122; (with_reducible refine (uscale_sc (by assumption) mn uLo huL hmn64 hH hL hs64).mono ?_); rintro e w1 ⟨rfl, hS1⟩) | (go_at_call 122; (with_reducible refine (uscale_sc (by assumption) mx uHi huH hmx64 hH hL hs64).mono ?_); rintro e w1 ⟨rfl, hS1⟩) | (go_at_call 122; (with_reducible refine (uscale_sc (by assumption) m uM huM hm64 hH hL hs64).mono ?_); rintro e w1 ⟨rfl, hS1⟩) | (go_at_call 123; (with_reducible refine (hnl _).mono ?_); rintro e w1 ⟨rfl, rfl⟩) | (go_at_call 123; (with_reducible refine (hnh _).mono ?_); rintro e w1 ⟨rfl, rfl⟩) | (go_at_call 124; (with_reducible refine (hce _).mono ?_); rintro e w1 ⟨rfl, rfl⟩) | (go_at_call 125; (with_reducible refine (hfl _).mono ?_); rintro e w1 ⟨rfl, rfl⟩) | (go_at_call 126; (with_reducible refine (hrd _).mono ?_); rintro e w1 ⟨rfl, rfl⟩))
      go_ret2
      exact ⟨rfl, Sc.below (by assumption)⟩
    · have k2' : decide (lo < hi) = false := decide_eq_false k2
      have k2'' : decide ((lo : Int) < (hi : Int)) = false := decide_eq_false (by omega)
      rw [if_neg k2]
      go_enter Tryz.func109, Tryz.ntmps109
      go_wp2_with (first | (go_at_call 119; (with_reducible refine (hsk _).mono ?_); rintro e w1 ⟨rfl, rfl⟩) | (go_at_call 104; (with_reducible refine (hlg _).mono ?_); rintro e w1 ⟨rfl, rfl⟩) | (go_at_call 121; (with_reducible refine (hl2 _).mono ?_); rintro e w1 ⟨rfl, rfl⟩) | (go_at_call 120; (with_reducible refine hpre.mono ?_); rintro e w1 ⟨rfl, hS1⟩) | (go_at_call 122; (with_reducible refine (uscale_sc (by assumption) mn uLo huL hmn64 hH hL hs64).mono ?_); rintro e w1 ⟨rfl, hS1⟩) | (go_at_call 122; (with_reducible refine (uscale_sc (by assumption) mx uHi huH hmx64 hH hL hs64).mono ?_); rintro e w1 ⟨rfl, hS1⟩) | (go_at_call 122; (with_reducible refine (uscale_sc (by assumption) m uM huM hm64 hH hL hs64).mono ?_); rintro e w1 ⟨rfl, hS1⟩) | (go_at_call 123; (with_reducible refine (hnl _).mono ?_); rintro e w1 ⟨rfl, rfl⟩) | (go_at_call 123; (with_reducible refine (hnh _).mono ?_); rintro e w1 ⟨rfl, rfl⟩) | (go_at_call 124; (with_reducible refine (hce _).mono ?_); rintro e w1 ⟨rfl, rfl⟩) | (go_at_call 125; (with_reducible refine (hfl _).mono ?_); rintro e w1 ⟨rfl, rfl⟩) | (go_at_call 126; (with_reducible refine (hrd _).mono ?_); rintro e w1 ⟨rfl, rfl⟩))
      go_ret2
      exact ⟨rfl, Sc.below (by assumption)⟩
set_option maxRecDepth 100000 in
set_option maxHeartbeats 4000000 in
theorem short_Cf (m : Nat) (e p : Int) (z mn mx o S uLo uHi uM lo hi D D10 rM : Nat) (hm64 : m < 18446744073709551616) (hp0 : -348 ≤ p) (hp1 : p ≤ 347) (he0 : -1137 ≤ e) (he1 : e ≤ 960) (hS : -(e + l2 p + 3) = (S : Int)) (hs64 : S < 64)
    (hmn64 : mn < 18446744073709551616) (hmx64 : mx < 18446744073709551616) (ho : o = m / 2 ^ z % 2) (huL : usc mn (rowOf p).1 (rowOf p).2 S = uLo) (huH : usc mx (rowOf p).1 (rowOf p).2 S = uHi) (huM : usc m (rowOf p).1 (rowOf p).2 S = uM)
    (bL : uLo < 2305843009213693952) (bH : uHi < 2305843009213693952) (bM : uM < 2305843009213693952) (uo : 1 ≤ uHi) (hlo : (uLo + o + 3) / 4 = lo) (hhi : (uHi - o) / 4 = hi) (hD : hi / 10 = D) (hD10 : D * 10 = D10) (hrM : rnd uM = rM)
    (hmn : mn = m - 2 ^ (z - 1)) (hmx : mx = m + 2 ^ (z - 1)) (hle : 2 ^ (z - 1) ≤ m) (q : Nat) (E : Int) (hq : -1085 - e = q) (hzq : z = 11 + q) (hz63 : z ≤ 63) (hE : e + z = E) (hge : e < -1085) (hlgp : lg E = -p) (hm63 : ¬ (m = 9223372036854775808)) (w : World) (ht : TenAt w) :
    Calls Tryz.prog 109 #[.int .u64 m, .int .i64 e] w fun x w' => x = .returned (.tuple #[.int .u64 (if lo ≤ D10 then D else if lo < hi then rM else lo : Nat), .int .i64 (if lo ≤ D10 then 1 - p else -p)]) ∧ Below w.heap.size w w' := by
  obtain ⟨H, hHd⟩ : ∃ H, (rowOf p).1 = H := ⟨_, rfl⟩
  obtain ⟨L, hLd⟩ : ∃ H, (rowOf p).2 = H := ⟨_, rfl⟩
  have hrow := row_ok p hp0 hp1
  simp only [rowOk, Bool.and_eq_true, decide_eq_true_eq] at hrow
  have hH : H < 18446744073709551616 := by rw [← hHd]; exact hrow.1.1.1.1.1.1
  have hL : L < 18446744073709551616 := by rw [← hLd]; exact hrow.1.1.1.1.1.2
  clear hrow
  have hl2r : -2000 ≤ l2 p ∧ l2 p ≤ 2000 := by unfold l2; omega
  have hpre := prescale_new e p (l2 p) S hp0 hp1 (by omega) (by omega) (by omega) (by omega) hS w ht
  rw [hHd] at huL huH huM
  rw [hLd] at huL huH huM
  rw [hHd, hLd] at hpre
  clear hHd hLd
  have hl2 := fun w => l2_any p (by omega) (by omega) w
  have ho1 : o ≤ 1 := by omega
  have no : IntKind.i64.wrap (-(o : Int)) = -(o : Int) := wrapI (by omega) (by omega)
  have hnl := fun w => nudge_any uLo (uLo + o) (o : Int) (by omega) (by omega) (by omega) w (by omega) (by omega)
  have hnh := fun w => nudge_any uHi (uHi - o) (-(o : Int)) (by omega) (by omega) (by omega) w (by omega) (by omega)
  have hce := fun w => ceil_any (uLo + o) (by omega) w
  have hfl := fun w => floor_any (uHi - o) (by omega) w
  have hrd := fun w => round_any uM (by omega) w
  rw [hlo] at hce
  rw [hhi] at hfl
  rw [hrM] at hrd
  obtain ⟨vL, hvL⟩ : ∃ v, uLo + o = v := ⟨_, rfl⟩
  obtain ⟨vH, hvH⟩ : ∃ v, uHi - o = v := ⟨_, rfl⟩
  rw [hvL] at hnl hce
  rw [hvH] at hnh hfl
  have d1 : (hi : Int) / 10 = (D : Int) := by omega
  have d2 : (hi : Int).tdiv 10 = (D : Int) := by rw [Int.tdiv_eq_ediv_of_nonneg (by omega)]; exact d1
  have d4 : IntKind.u64.wrap (D : Int) = (D : Int) := wrapU (by omega) (by omega)
  have d3 : IntKind.u64.wrap ((D : Int) * 10) = ((D10 : Nat) : Int) := by rw [wrapU (by omega) (by omega)]; omega
  have hlg := fun w => lg_any E (by omega) (by omega) w
  rw [hlgp] at hlg
  have a0 : IntKind.i64.wrap (-1085 - e) = (q : Int) := by rw [wrapI (by omega) (by omega)]; omega
  have a01 : IntKind.i64.wrap (11 + (q : Int)) = (z : Int) := by rw [wrapI (by omega) (by omega)]; omega
  have a1 : IntKind.i64.wrap (e + (z : Int)) = E := by rw [wrapI (by omega) (by omega)]; omega
  have a2 : IntKind.i64.wrap (-(-p)) = p := by rw [wrapI (by omega) (by omega)]; omega
  obtain ⟨z1, hz1⟩ : ∃ z1, z - 1 = z1 := ⟨_, rfl⟩
  rw [hz1] at hmn hmx hle
  obtain ⟨P, hP⟩ : ∃ P, 2 ^ z1 = P := ⟨_, rfl⟩
  rw [hP] at hmn hmx hle
  have a21 : IntKind.i64.wrap ((z : Int) - 1) = (z1 : Int) := by rw [wrapI (by omega) (by omega)]; omega
  have a22 : z1 ≤ 64 := by omega
  have a23 : (z1 : Int) ≤ 64 := by omega
  have a24 : z ≤ 64 := by omega
  have a25 : (z : Int) ≤ 64 := by omega
  have a26 : IntKind.u64.wrap ((2 : Int) ^ z1) = (P : Int) := by
    have : (2 : Int) ^ z1 = (P : Int) := by rw [← hP]; norm_cast
    rw [this, wrapU (by omega) (by omega)]
  have a3 : IntKind.u64.wrap ((m : Int) - (P : Int)) = (mn : Int) := by rw [hmn]; rw [wrapU (by omega) (by omega)]; omega
  have a4 : IntKind.u64.wrap ((m : Int) + (P : Int)) = (mx : Int) := by rw [hmx]; rw [wrapU (by omega) (by omega)]; omega
  obtain ⟨mz, hmz⟩ : ∃ k, m / 2 ^ z = k := ⟨_, rfl⟩
  have a5 : (m : Int) / 2 ^ z = (mz : Int) := by rw [shr_nat, hmz]
  have hmz64 : mz < 9223372036854775808 := by
    have h2 : (2 : Nat) ^ 11 ≤ 2 ^ z := Nat.pow_le_pow_right (by omega) (by omega)
    have h3 : m / 2 ^ z ≤ m / 2 ^ 11 := Nat.div_le_div_left h2 (by decide)
    omega
  rw [hmz] at ho
  have a6 : bits .and .i64 (mz : Int) 1 = (o : Int) := by rw [and_one_i mz hmz64, ho]
  have a7 : IntKind.i64.wrap (mz : Int) = (mz : Int) := wrapI (by omega) (by omega)
  have g1 : decide (-1085 ≤ e) = false := decide_eq_false (by omega)
  have g2 : (m = 9223372036854775808) = False := eq_false hm63
  have g4 : ((m : Int) = 9223372036854775808) = False := by rw [← g2]; apply propext; omega
  have g5 : ((m : Int) == 9223372036854775808) = false := by simp [g4]
  have g3 : decide (-1085 < e) = false := decide_eq_false (by omega)
  clear hq hzq hE hmz hmz64 hP hz1 hlgp
  have n1 : IntKind.i64.wrap (p - 1) = p - 1 := wrapI (by omega) (by omega)
  have n2 : IntKind.i64.wrap (-(p - 1)) = 1 - p := by rw [wrapI (by omega) (by omega)]; omega
  have n3 : IntKind.i64.wrap (-p) = -p := wrapI (by omega) (by omega)
  clear hvL hvH ht hS bL bH bM hlo hhi hrM hl2r hmn hmx ho hm63
  by_cases k1 : lo ≤ D10
  · have k1' : decide (lo ≤ D10) = true := decide_eq_true k1
    have k1'' : decide ((lo : Int) ≤ (D10 : Int)) = true := decide_eq_true (by omega)
    rw [if_pos k1, if_pos k1]
    go_enter Tryz.func109, Tryz.ntmps109
    go_wp2_with (first | (go_at_call 119; (with_reducible refine (hsk _).mono ?_); rintro e w1 ⟨rfl, rfl⟩) | (go_at_call 104; (with_reducible refine (hlg _).mono ?_); rintro e w1 ⟨rfl, rfl⟩) | (go_at_call 121; (with_reducible refine (hl2 _).mono ?_); rintro e w1 ⟨rfl, rfl⟩) | (go_at_call 120; (with_reducible refine hpre.mono ?_); rintro e w1 ⟨rfl, hS1⟩) | (go_at_call 122; (with_reducible refine (uscale_sc (by assumption) mn uLo huL hmn64 hH hL hs64).mono ?_); rintro e w1 ⟨rfl, hS1⟩) | (go_at_call 122; (with_reducible refine (uscale_sc (by assumption) mx uHi huH hmx64 hH hL hs64).mono ?_); rintro e w1 ⟨rfl, hS1⟩) | (go_at_call 122; (with_reducible refine (uscale_sc (by assumption) m uM huM hm64 hH hL hs64).mono ?_); rintro e w1 ⟨rfl, hS1⟩) | (go_at_call 123; (with_reducible refine (hnl _).mono ?_); rintro e w1 ⟨rfl, rfl⟩) | (go_at_call 123; (with_reducible refine (hnh _).mono ?_); rintro e w1 ⟨rfl, rfl⟩) | (go_at_call 124; (with_reducible refine (hce _).mono ?_); rintro e w1 ⟨rfl, rfl⟩) | (go_at_call 125; (with_reducible refine (hfl _).mono ?_); rintro e w1 ⟨rfl, rfl⟩) | (go_at_call 126; (with_reducible refine (hrd _).mono ?_); rintro e w1 ⟨rfl, rfl⟩))
    go_ret2
    exact ⟨rfl, Sc.below (by assumption)⟩
  · have k1' : decide (lo ≤ D10) = false := decide_eq_false k1
    have k1'' : decide ((lo : Int) ≤ (D10 : Int)) = false := decide_eq_false (by omega)
    rw [if_neg k1, if_neg k1]
    by_cases k2 : lo < hi
    · have k2' : decide (lo < hi) = true := decide_eq_true k2
      have k2'' : decide ((lo : Int) < (hi : Int)) = true := decide_eq_true (by omega)
      rw [if_pos k2]
      go_enter Tryz.func109, Tryz.ntmps109
      go_wp2_with (first | (go_at_call 119; (with_reducible refine (hsk _).mono ?_); rintro e w1 ⟨rfl, rfl⟩) | (go_at_call 104; (with_reducible refine (hlg _).mono ?_); rintro e w1 ⟨rfl, rfl⟩) | (go_at_call 121; (with_reducible refine (hl2 _).mono ?_); rintro e w1 ⟨rfl, rfl⟩) | (go_at_call 120; (with_reducible refine hpre.mono ?_); rintro e w1 ⟨rfl, hS1⟩) | (go_at_call 122; (with_reducible refine (uscale_sc (by assumption) mn uLo huL hmn64 hH hL hs64).mono ?_); rintro e w1 ⟨rfl, hS1⟩) | (go_at_call 122; (with_reducible refine (uscale_sc (by assumption) mx uHi huH hmx64 hH hL hs64).mono ?_); rintro e w1 ⟨rfl, hS1⟩) | (go_at_call 122; (with_reducible refine (uscale_sc (by assumption) m uM huM hm64 hH hL hs64).mono ?_); rintro e w1 ⟨rfl, hS1⟩) | (go_at_call 123; (with_reducible refine (hnl _).mono ?_); rintro e w1 ⟨rfl, rfl⟩) | (go_at_call 123; (with_reducible refine (hnh _).mono ?_); rintro e w1 ⟨rfl, rfl⟩) | (go_at_call 124; (with_reducible refine (hce _).mono ?_); rintro e w1 ⟨rfl, rfl⟩) | (go_at_call 125; (with_reducible refine (hfl _).mono ?_); rintro e w1 ⟨rfl, rfl⟩) | (go_at_call 126; (with_reducible refine (hrd _).mono ?_); rintro e w1 ⟨rfl, rfl⟩))
      go_ret2
      exact ⟨rfl, Sc.below (by assumption)⟩
    · have k2' : decide (lo < hi) = false := decide_eq_false k2
      have k2'' : decide ((lo : Int) < (hi : Int)) = false := decide_eq_false (by omega)
      rw [if_neg k2]
      go_enter Tryz.func109, Tryz.ntmps109
      go_wp2_with (first | (go_at_call 119; (with_reducible refine (hsk _).mono ?_); rintro e w1 ⟨rfl, rfl⟩) | (go_at_call 104; (with_reducible refine (hlg _).mono ?_); rintro e w1 ⟨rfl, rfl⟩) | (go_at_call 121; (with_reducible refine (hl2 _).mono ?_); rintro e w1 ⟨rfl, rfl⟩) | (go_at_call 120; (with_reducible refine hpre.mono ?_); rintro e w1 ⟨rfl, hS1⟩) | (go_at_call 122; (with_reducible refine (uscale_sc (by assumption) mn uLo huL hmn64 hH hL hs64).mono ?_); rintro e w1 ⟨rfl, hS1⟩) | (go_at_call 122; (with_reducible refine (uscale_sc (by assumption) mx uHi huH hmx64 hH hL hs64).mono ?_); rintro e w1 ⟨rfl, hS1⟩) | (go_at_call 122; (with_reducible refine (uscale_sc (by assumption) m uM huM hm64 hH hL hs64).mono ?_); rintro e w1 ⟨rfl, hS1⟩) | (go_at_call 123; (with_reducible refine (hnl _).mono ?_); rintro e w1 ⟨rfl, rfl⟩) | (go_at_call 123; (with_reducible refine (hnh _).mono ?_); rintro e w1 ⟨rfl, rfl⟩) | (go_at_call 124; (with_reducible refine (hce _).mono ?_); rintro e w1 ⟨rfl, rfl⟩) | (go_at_call 125; (with_reducible refine (hfl _).mono ?_); rintro e w1 ⟨rfl, rfl⟩) | (go_at_call 126; (with_reducible refine (hrd _).mono ?_); rintro e w1 ⟨rfl, rfl⟩))
      go_ret2
      exact ⟨rfl, Sc.below (by assumption)⟩
end Go.Proofs.YtcfknhboicomjaaGreatDoor.Ft
