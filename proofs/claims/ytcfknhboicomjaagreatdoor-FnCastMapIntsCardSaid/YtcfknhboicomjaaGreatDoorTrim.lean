/- The walks of cast's zzIndex, zzContains, zzNumber, trimDecimal: printed by the print tool, one leaf of zzNumber mended. -/
import Derived.Test.YtcfknhboicomjaaGreatDoorPFnCastMapInt64sx0
namespace Go.Proofs.YtcfknhboicomjaaGreatDoor.PFnCastMapInt64s
open Go.RowKit Go.Proofs.YtcfknhboicomjaaGreatDoorW.PrintWords Go.Proofs.YtcfknhboicomjaaGreatDoorW.PrintLast Go.Proofs.YtcfknhboicomjaaGreatDoorW.PrintMore
attribute [local go_sem] max2_int min2_int max_two min_two max_three min_three max_four min_four   -- for this text's walks alone
set_option linter.unusedVariables false
set_option linter.unusedSimpArgs false

/-! ### cast_zzIndex: function 95 -/
def cast_zzIndex.l0 : Nat → ByteArray → ByteArray → Int → Option (Int)
  | 0, _, _, _ => none
  | k + 1, x0, x1, x5 => if (wrap64 (x5 + (x1.size : Int))) ≤ (x0.size : Int) then (if 0 ≤ x5 then (if x5 ≤ (wrap64 (x5 + (x1.size : Int))) then (if (x0.extract (x5 : Int).toNat ((wrap64 (x5 + (x1.size : Int))) : Int).toNat).toList = x1.toList then (some x5) else (cast_zzIndex.l0 k x0 x1 (wrap64 (x5 + 1)))) else (none)) else (none)) else (some (-1))
def cast_zzIndex.f (k : Nat) (a0 : ByteArray) (a1 : ByteArray) : Option (Int) := cast_zzIndex.l0 k a0 a1 0
theorem cast_zzIndex.mono_l : ∀ k, (∀ y0 y1 y2, LeO (cast_zzIndex.l0 k y0 y1 y2) (cast_zzIndex.l0 (k + 1) y0 y1 y2))
  | 0 => fun _ _ _ r h => by simp [cast_zzIndex.l0] at h
  | k + 1 => by
    have ih0 := cast_zzIndex.mono_l k
    · intro y0 y1 y2
      unfold cast_zzIndex.l0
      repeat' first
      | (with_reducible exact ih0 _ _ _)
      | (with_reducible exact LeO.refl _)
      | (with_reducible exact LeO.none _)
      | (with_reducible refine LeO.ite ?_ ?_)
      | (with_reducible refine LeO.bind ?_ (fun _ => ?_))
      | exact ih0 _ _ _
      | exact LeO.none _
      | refine LeO.ite ?_ ?_
      | refine LeO.bind ?_ (fun _ => ?_)
theorem cast_zzIndex.mono : ∀ a0 a1 k, LeO (cast_zzIndex.f k a0 a1) (cast_zzIndex.f (k + 1) a0 a1) := by
  intro a0 a1 k
  have ih0 := cast_zzIndex.mono_l k
  unfold cast_zzIndex.f
  repeat' first
      | (with_reducible exact ih0 _ _ _)
      | (with_reducible exact LeO.refl _)
      | (with_reducible exact LeO.none _)
      | (with_reducible refine LeO.ite ?_ ?_)
      | (with_reducible refine LeO.bind ?_ (fun _ => ?_))
      | exact ih0 _ _ _
      | exact LeO.none _
      | refine LeO.ite ?_ ?_
      | refine LeO.bind ?_ (fun _ => ?_)
set_option maxHeartbeats 8000000 in
set_option maxRecDepth 100000 in
theorem cast_zzIndex.calls (k : Nat) (a0 : ByteArray) (a1 : ByteArray) (r : Int) (w : World) (h : cast_zzIndex.f k a0 a1 = some r) :
    Calls Tryz.prog 95 #[.string a0, .string a1] w fun e w' => e = .returned (.int .i64 r) ∧ Drawn0 w w' := by
  have H : (cast_zzIndex.l0 k a0 a1 0) = some r := h
  clear h
  have H' := Aside0.mk H
  clear H
  go_enter Tryz.func95, Tryz.ntmps95
  go_wp2
  go_loopg [5] k (fun kq v5 w' => ∃ (x5_1 : Int), v5 = .int .i64 x5_1 ∧ Aside0 (cast_zzIndex.l0 kq a0 a1 x5_1 = some r) ∧ Aside0 (kq ≤ k) ∧ Drawn0 w w')
  case atStart => exact ⟨(0), (by first | rfl | (simp; done) | (simp [*]; done)), H', ⟨Nat.le_refl _⟩, by repeat (first | exact Drawn0.refl _ | apply Drawn0.step)⟩
  case round =>
    clear H'
    try clear p2
    obtain ⟨x5_1, rfl, HA, HK1, ⟨m1, rfl⟩⟩ := hrel
    cases gk with
    | zero => exact absurd HA.out (by simp [cast_zzIndex.l0])
    | succ k1 =>
      have H := HA.out
      clear HA
      simp only [cast_zzIndex.l0] at H
      by_cases c3 : (wrap64 (x5_1 + (a1.size : Int))) ≤ (a0.size : Int)
      · rw [if_pos c3] at H
        have c3b0 : decide ((wrap64 (x5_1 + (a1.size : Int))) ≤ (a0.size : Int)) = true := decide_eq_true c3
        clear c3
        by_cases c4 : 0 ≤ x5_1
        · rw [if_pos c4] at H
          have c4b0 := eq_true c4
          have c4b1 : decide (0 ≤ x5_1) = true := decide_eq_true c4
          clear c4
          by_cases c5 : x5_1 ≤ (wrap64 (x5_1 + (a1.size : Int)))
          · rw [if_pos c5] at H
            have c5b0 := eq_true c5
            have c5b1 : decide (x5_1 ≤ (wrap64 (x5_1 + (a1.size : Int)))) = true := decide_eq_true c5
            have c6b0 := eq_true (of_decide_eq_true (by first | (with_reducible assumption) | assumption) : (wrap64 (x5_1 + (a1.size : Int))) ≤ (a0.size : Int))
            by_cases c7 : (a0.extract (x5_1 : Int).toNat ((wrap64 (x5_1 + (a1.size : Int))) : Int).toNat).toList = a1.toList
            · rw [if_pos c7] at H
              have c7b0 : ((a0.extract (x5_1 : Int).toNat ((wrap64 (x5_1 + (a1.size : Int))) : Int).toNat).toList == a1.toList) = true := beq_iff_eq.mpr c7
              have c7b1 : ((a0.extract (x5_1 : Int).toNat ((wrap64 (x5_1 + (a1.size : Int))) : Int).toNat).toList != a1.toList) = false := bne_eq_false_iff_eq.mpr c7
              clear c7
              obtain rfl := Option.some.inj H
              go_wp2
              go_ret
              exact ⟨by first | rfl | (simp; done) | (simp [*]; done), by repeat (first | exact Drawn0.refl _ | apply Drawn0.step)⟩
            · rw [if_neg c7] at H
              have c7b0 : ((a0.extract (x5_1 : Int).toNat ((wrap64 (x5_1 + (a1.size : Int))) : Int).toNat).toList == a1.toList) = false := beq_eq_false_iff_ne.mpr c7
              have c7b1 : ((a0.extract (x5_1 : Int).toNat ((wrap64 (x5_1 + (a1.size : Int))) : Int).toNat).toList != a1.toList) = true := bne_iff_ne.mpr c7
              have H' := Aside0.mk H
              clear H
              go_wp2
              go_roundg k1
              case measure => have := HK1.out; omega
              case rel => exact ⟨(wrap64 (x5_1 + 1)), (by first | rfl | (simp; done) | (simp [*]; done)), H', ⟨by have := HK1.out; omega⟩, by repeat (first | exact Drawn0.refl _ | apply Drawn0.step)⟩
          · rw [if_neg c5] at H
            exact absurd H (by simp)
        · rw [if_neg c4] at H
          exact absurd H (by simp)
      · rw [if_neg c3] at H
        have c3b0 : decide ((wrap64 (x5_1 + (a1.size : Int))) ≤ (a0.size : Int)) = false := decide_eq_false c3
        clear c3
        obtain rfl := Option.some.inj H
        go_wp2
        go_ret
        exact ⟨by first | rfl | (simp; done) | (simp [*]; done), by repeat (first | exact Drawn0.refl _ | apply Drawn0.step)⟩

/-! ### cast_zzContains: function 81 -/
def cast_zzContains.f (k : Nat) (a0 : ByteArray) (a1 : ByteArray) : Option (Bool) := (cast_zzIndex.f k a0 a1).bind fun t135 => (some (decide (t135 ≥ 0)))
theorem cast_zzContains.mono : ∀ a0 a1 k, LeO (cast_zzContains.f k a0 a1) (cast_zzContains.f (k + 1) a0 a1) := by
  intro a0 a1 k
  unfold cast_zzContains.f
  repeat' first
      | (with_reducible exact cast_zzIndex.mono _ _ _)
      | (with_reducible exact LeO.refl _)
      | (with_reducible exact LeO.none _)
      | (with_reducible refine LeO.ite ?_ ?_)
      | (with_reducible refine LeO.bind ?_ (fun _ => ?_))
      | exact cast_zzIndex.mono _ _ _
      | exact LeO.none _
      | refine LeO.ite ?_ ?_
      | refine LeO.bind ?_ (fun _ => ?_)
set_option maxHeartbeats 8000000 in
set_option maxRecDepth 100000 in
theorem cast_zzContains.calls (k : Nat) (a0 : ByteArray) (a1 : ByteArray) (r : Bool) (w : World) (h : cast_zzContains.f k a0 a1 = some r) :
    Calls Tryz.prog 81 #[.string a0, .string a1] w fun e w' => e = .returned (.bool r) ∧ Drawn0 w w' := by
  have H : ((cast_zzIndex.f k a0 a1).bind fun t135 => (some (decide (t135 ≥ 0)))) = some r := h
  clear h
  replace H := Option.bind_eq_some_iff.mp H
  obtain ⟨t135, A30, H⟩ := H
  replace H : (some (decide (t135 ≥ 0))) = some r := H
  have A3 := Aside0.mk A30
  clear A30
  obtain rfl := Option.some.inj H
  go_enter Tryz.func81, Tryz.ntmps81
  go_wp2_with (first | ((with_reducible refine gate_callee (f := 95) rfl ?_); refine goesL_ (some 7) rfl rfl Tryz.func95 (by kernel_rfl) rfl #[.string a0, .string a1] rfl (by (try simp only [List.map_toArray, List.map_cons, List.map_nil]); first | done | rfl | (simp only [List.length_drop, List.length_take]; rfl)) ?_; (with_reducible refine (cast_zzIndex.calls k a0 a1 t135 _ A3.out).mono ?_); rintro e w' ⟨rfl, ⟨nd, rfl⟩⟩; refine ⟨_, rfl, ?_⟩))
  go_ret
  exact ⟨by first | rfl | (simp; done) | (simp [*]; done), by repeat (first | exact Drawn0.refl _ | apply Drawn0.step)⟩

/-! ### cast_zzNumber: function 82 -/
mutual
def cast_zzNumber.j0 : Nat → ByteArray → Int → Bool → Option (ByteArray × Bool)
  | 0, _, _, _ => none
  | k + 1, x0, x4, x21 => if x21 = true then (cast_zzNumber.j1 k x0 (wrap64 (x4 + 1))) else (cast_zzNumber.j1 k x0 x4)
def cast_zzNumber.j1 : Nat → ByteArray → Int → Option (ByteArray × Bool)
  | 0, _, _ => none
  | k + 1, x0, x4 => cast_zzNumber.l0 k x0 x4
def cast_zzNumber.j3 : Nat → ByteArray → Int → Option (ByteArray × Bool)
  | 0, _, _ => none
  | k + 1, x0, x4 => if 0 ≤ x4 then (if x4 ≤ (x0.size : Int) then (if x4 < (x0.size : Int) then (cast_zzNumber.j4 k x0 x4 (x0.extract 0 (x4 : Int).toNat) ((bt x0 x4) == 46)) else (cast_zzNumber.j4 k x0 x4 (x0.extract 0 (x4 : Int).toNat) false)) else (none)) else (none)
def cast_zzNumber.j4 : Nat → ByteArray → Int → ByteArray → Bool → Option (ByteArray × Bool)
  | 0, _, _, _, _ => none
  | k + 1, x0, x4, x5, x54 => if x54 = true then (cast_zzNumber.l1 k x0 (wrap64 (x4 + 1)) x5) else (some (x5, (x4 == (x0.size : Int))))
def cast_zzNumber.l1 : Nat → ByteArray → Int → ByteArray → Option (ByteArray × Bool)
  | 0, _, _, _ => none
  | k + 1, x0, x4, x5 => if x4 < (x0.size : Int) then (if 0 ≤ x4 then (if 48 ≤ (bt x0 x4) then (if (bt x0 x4) ≤ 57 then (cast_zzNumber.l1 k x0 (wrap64 (x4 + 1)) x5) else (some (x5, (x4 == (x0.size : Int))))) else (some (x5, (x4 == (x0.size : Int))))) else (none)) else (some (x5, (x4 == (x0.size : Int))))
def cast_zzNumber.l0 : Nat → ByteArray → Int → Option (ByteArray × Bool)
  | 0, _, _ => none
  | k + 1, x0, x4 => if x4 < (x0.size : Int) then (if 0 ≤ x4 then (if 48 ≤ (bt x0 x4) then (if (bt x0 x4) ≤ 57 then (cast_zzNumber.l0 k x0 (wrap64 (x4 + 1))) else (cast_zzNumber.j3 k x0 x4)) else (cast_zzNumber.j3 k x0 x4)) else (none)) else (cast_zzNumber.j3 k x0 x4)
end
def cast_zzNumber.f (k : Nat) (a0 : ByteArray) : Option (ByteArray × Bool) := if 0 < (a0.size : Int) then (if (bt a0 0) = 45 then (cast_zzNumber.j0 k a0 0 true) else (cast_zzNumber.j0 k a0 0 ((bt a0 0) == 43))) else (cast_zzNumber.j0 k a0 0 false)
theorem cast_zzNumber.mono_l : ∀ k, (∀ y0 y1 y2, LeO (cast_zzNumber.j0 k y0 y1 y2) (cast_zzNumber.j0 (k + 1) y0 y1 y2)) ∧ (∀ y0 y1, LeO (cast_zzNumber.j1 k y0 y1) (cast_zzNumber.j1 (k + 1) y0 y1)) ∧ (∀ y0 y1, LeO (cast_zzNumber.j3 k y0 y1) (cast_zzNumber.j3 (k + 1) y0 y1)) ∧ (∀ y0 y1 y2 y3, LeO (cast_zzNumber.j4 k y0 y1 y2 y3) (cast_zzNumber.j4 (k + 1) y0 y1 y2 y3)) ∧ (∀ y0 y1 y2, LeO (cast_zzNumber.l1 k y0 y1 y2) (cast_zzNumber.l1 (k + 1) y0 y1 y2)) ∧ (∀ y0 y1, LeO (cast_zzNumber.l0 k y0 y1) (cast_zzNumber.l0 (k + 1) y0 y1))
  | 0 => ⟨fun _ _ _ r h => by simp [cast_zzNumber.j0] at h, fun _ _ r h => by simp [cast_zzNumber.j1] at h, fun _ _ r h => by simp [cast_zzNumber.j3] at h, fun _ _ _ _ r h => by simp [cast_zzNumber.j4] at h, fun _ _ _ r h => by simp [cast_zzNumber.l1] at h, fun _ _ r h => by simp [cast_zzNumber.l0] at h⟩
  | k + 1 => by
    obtain ⟨ih0, ih1, ih2, ih3, ih4, ih5⟩ := cast_zzNumber.mono_l k
    refine ⟨?_, ?_, ?_, ?_, ?_, ?_⟩
    · intro y0 y1 y2
      unfold cast_zzNumber.j0
      repeat' first
      | (with_reducible exact ih0 _ _ _)
      | (with_reducible exact ih1 _ _)
      | (with_reducible exact ih2 _ _)
      | (with_reducible exact ih3 _ _ _ _)
      | (with_reducible exact ih4 _ _ _)
      | (with_reducible exact ih5 _ _)
      | (with_reducible exact LeO.refl _)
      | (with_reducible exact LeO.none _)
      | (with_reducible refine LeO.ite ?_ ?_)
      | (with_reducible refine LeO.bind ?_ (fun _ => ?_))
      | exact ih0 _ _ _
      | exact ih1 _ _
      | exact ih2 _ _
      | exact ih3 _ _ _ _
      | exact ih4 _ _ _
      | exact ih5 _ _
      | exact LeO.none _
      | refine LeO.ite ?_ ?_
      | refine LeO.bind ?_ (fun _ => ?_)
    · intro y0 y1
      unfold cast_zzNumber.j1
      repeat' first
      | (with_reducible exact ih0 _ _ _)
      | (with_reducible exact ih1 _ _)
      | (with_reducible exact ih2 _ _)
      | (with_reducible exact ih3 _ _ _ _)
      | (with_reducible exact ih4 _ _ _)
      | (with_reducible exact ih5 _ _)
      | (with_reducible exact LeO.refl _)
      | (with_reducible exact LeO.none _)
      | (with_reducible refine LeO.ite ?_ ?_)
      | (with_reducible refine LeO.bind ?_ (fun _ => ?_))
      | exact ih0 _ _ _
      | exact ih1 _ _
      | exact ih2 _ _
      | exact ih3 _ _ _ _
      | exact ih4 _ _ _
      | exact ih5 _ _
      | exact LeO.none _
      | refine LeO.ite ?_ ?_
      | refine LeO.bind ?_ (fun _ => ?_)
    · intro y0 y1
      unfold cast_zzNumber.j3
      repeat' first
      | (with_reducible exact ih0 _ _ _)
      | (with_reducible exact ih1 _ _)
      | (with_reducible exact ih2 _ _)
      | (with_reducible exact ih3 _ _ _ _)
      | (with_reducible exact ih4 _ _ _)
      | (with_reducible exact ih5 _ _)
      | (with_reducible exact LeO.refl _)
      | (with_reducible exact LeO.none _)
      | (with_reducible refine LeO.ite ?_ ?_)
      | (with_reducible refine LeO.bind ?_ (fun _ => ?_))
      | exact ih0 _ _ _
      | exact ih1 _ _
      | exact ih2 _ _
      | exact ih3 _ _ _ _
      | exact ih4 _ _ _
      | exact ih5 _ _
      | exact LeO.none _
      | refine LeO.ite ?_ ?_
      | refine LeO.bind ?_ (fun _ => ?_)
    · intro y0 y1 y2 y3
      unfold cast_zzNumber.j4
      repeat' first
      | (with_reducible exact ih0 _ _ _)
      | (with_reducible exact ih1 _ _)
      | (with_reducible exact ih2 _ _)
      | (with_reducible exact ih3 _ _ _ _)
      | (with_reducible exact ih4 _ _ _)
      | (with_reducible exact ih5 _ _)
      | (with_reducible exact LeO.refl _)
      | (with_reducible exact LeO.none _)
      | (with_reducible refine LeO.ite ?_ ?_)
      | (with_reducible refine LeO.bind ?_ (fun _ => ?_))
      | exact ih0 _ _ _
      | exact ih1 _ _
      | exact ih2 _ _
      | exact ih3 _ _ _ _
      | exact ih4 _ _ _
      | exact ih5 _ _
      | exact LeO.none _
      | refine LeO.ite ?_ ?_
      | refine LeO.bind ?_ (fun _ => ?_)
    · intro y0 y1 y2
      unfold cast_zzNumber.l1
      repeat' first
      | (with_reducible exact ih0 _ _ _)
      | (with_reducible exact ih1 _ _)
      | (with_reducible exact ih2 _ _)
      | (with_reducible exact ih3 _ _ _ _)
      | (with_reducible exact ih4 _ _ _)
      | (with_reducible exact ih5 _ _)
      | (with_reducible exact LeO.refl _)
      | (with_reducible exact LeO.none _)
      | (with_reducible refine LeO.ite ?_ ?_)
      | (with_reducible refine LeO.bind ?_ (fun _ => ?_))
      | exact ih0 _ _ _
      | exact ih1 _ _
      | exact ih2 _ _
      | exact ih3 _ _ _ _
      | exact ih4 _ _ _
      | exact ih5 _ _
      | exact LeO.none _
      | refine LeO.ite ?_ ?_
      | refine LeO.bind ?_ (fun _ => ?_)
    · intro y0 y1
      unfold cast_zzNumber.l0
      repeat' first
      | (with_reducible exact ih0 _ _ _)
      | (with_reducible exact ih1 _ _)
      | (with_reducible exact ih2 _ _)
      | (with_reducible exact ih3 _ _ _ _)
      | (with_reducible exact ih4 _ _ _)
      | (with_reducible exact ih5 _ _)
      | (with_reducible exact LeO.refl _)
      | (with_reducible exact LeO.none _)
      | (with_reducible refine LeO.ite ?_ ?_)
      | (with_reducible refine LeO.bind ?_ (fun _ => ?_))
      | exact ih0 _ _ _
      | exact ih1 _ _
      | exact ih2 _ _
      | exact ih3 _ _ _ _
      | exact ih4 _ _ _
      | exact ih5 _ _
      | exact LeO.none _
      | refine LeO.ite ?_ ?_
      | refine LeO.bind ?_ (fun _ => ?_)
theorem cast_zzNumber.mono : ∀ a0 k, LeO (cast_zzNumber.f k a0) (cast_zzNumber.f (k + 1) a0) := by
  intro a0 k
  obtain ⟨ih0, ih1, ih2, ih3, ih4, ih5⟩ := cast_zzNumber.mono_l k
  unfold cast_zzNumber.f
  repeat' first
      | (with_reducible exact ih0 _ _ _)
      | (with_reducible exact ih1 _ _)
      | (with_reducible exact ih2 _ _)
      | (with_reducible exact ih3 _ _ _ _)
      | (with_reducible exact ih4 _ _ _)
      | (with_reducible exact ih5 _ _)
      | (with_reducible exact LeO.refl _)
      | (with_reducible exact LeO.none _)
      | (with_reducible refine LeO.ite ?_ ?_)
      | (with_reducible refine LeO.bind ?_ (fun _ => ?_))
      | exact ih0 _ _ _
      | exact ih1 _ _
      | exact ih2 _ _
      | exact ih3 _ _ _ _
      | exact ih4 _ _ _
      | exact ih5 _ _
      | exact LeO.none _
      | refine LeO.ite ?_ ?_
      | refine LeO.bind ?_ (fun _ => ?_)
set_option maxHeartbeats 8000000 in
set_option maxRecDepth 100000 in
theorem cast_zzNumber.calls (k : Nat) (a0 : ByteArray) (r1 : ByteArray) (r2 : Bool) (w : World) (h : cast_zzNumber.f k a0 = some (r1, r2)) :
    Calls Tryz.prog 82 #[.string a0] w fun e w' => e = .returned (.tuple #[.string r1, .bool r2]) ∧ Drawn0 w w' := by
  have H : (if 0 < (a0.size : Int) then (if (bt a0 0) = 45 then (cast_zzNumber.j0 k a0 0 true) else (cast_zzNumber.j0 k a0 0 ((bt a0 0) == 43))) else (cast_zzNumber.j0 k a0 0 false)) = some (r1, r2) := h
  clear h
  have HC2 := Aside0.mk H
  clear H
  go_enter Tryz.func82, Tryz.ntmps82
  go_upto_region 2 with (fail)
  go_cut [21] (fun v21 wc => ∃ (kq : Nat) (x21_1 : Bool), v21 = .bool x21_1 ∧ Aside0 (cast_zzNumber.j0 kq a0 0 x21_1 = some (r1, r2)) ∧ Aside0 (kq ≤ k) ∧ Drawn0 w wc)
  case first =>
    have H := HC2.out
    clear HC2
    by_cases c3 : 0 < (a0.size : Int)
    · rw [if_pos c3] at H
      have c3b0 : decide (0 < (a0.size : Int)) = true := decide_eq_true c3
      have c3b1 : decide (0 < a0.size) = true := decide_eq_true (by omega)
      clear c3
      (first | rw [c3b0] | (simp only [i64_w, i32_w]; rw [c3b0]) | skip)
      by_cases c5 : (bt a0 0) = 45
      · rw [if_pos c5] at H
        have c5b0 : ((bt a0 0) == 45) = true := beq_iff_eq.mpr c5
        have c5b1 : ((bt a0 0) != 45) = false := bne_eq_false_iff_eq.mpr c5
        clear c5
        have H' := Aside0.mk H
        clear H
        have p4 : 0 ≤ (0 : Int) := (by omega)
        have q4 : 0 < a0.size := (by have : (0 : Int) < (a0.size : Int) := of_decide_eq_true (by first | (with_reducible assumption) | assumption); omega)
        have hx4 : ∀ h : 0 < a0.size, ((a0[0]'h).toNat : Int) = bt a0 0 := bt_at a0 0
        clear p4
        have qi4 : (0 < (a0.size : Int)) = True := eq_true (of_decide_eq_true (by first | (with_reducible assumption) | assumption))
        replace q4 := eq_true q4
        go_wp2
        go_meet
        case rel => exact ⟨_, (true), (by first | rfl | (simp; done) | (simp [*]; done)), H', ⟨by first | omega | exact Nat.le_refl _⟩, by repeat (first | exact Drawn0.refl _ | apply Drawn0.step)⟩
      · rw [if_neg c5] at H
        have c5b0 : ((bt a0 0) == 45) = false := beq_eq_false_iff_ne.mpr c5
        have c5b1 : ((bt a0 0) != 45) = true := bne_iff_ne.mpr c5
        have H' := Aside0.mk H
        clear H
        have p4 : 0 ≤ (0 : Int) := (by omega)
        have q4 : 0 < a0.size := (by have : (0 : Int) < (a0.size : Int) := of_decide_eq_true (by first | (with_reducible assumption) | assumption); omega)
        have hx4 : ∀ h : 0 < a0.size, ((a0[0]'h).toNat : Int) = bt a0 0 := bt_at a0 0
        clear p4
        have qi4 : (0 < (a0.size : Int)) = True := eq_true (of_decide_eq_true (by first | (with_reducible assumption) | assumption))
        replace q4 := eq_true q4
        have p6 : 0 ≤ (0 : Int) := (by omega)
        have q6 : 0 < a0.size := (by have : (0 : Int) < (a0.size : Int) := of_decide_eq_true (by first | (with_reducible assumption) | assumption); omega)
        have hx6 : ∀ h : 0 < a0.size, ((a0[0]'h).toNat : Int) = bt a0 0 := bt_at a0 0
        clear p6
        have qi6 : (0 < (a0.size : Int)) = True := eq_true (of_decide_eq_true (by first | (with_reducible assumption) | assumption))
        replace q6 := eq_true q6
        go_wp2
        go_meet
        case rel => exact ⟨_, (((bt a0 0) == 43)), (by first | rfl | (simp; done) | (simp [*]; done)), H', ⟨by first | omega | exact Nat.le_refl _⟩, by repeat (first | exact Drawn0.refl _ | apply Drawn0.step)⟩
    · rw [if_neg c3] at H
      have c3b0 : decide (0 < (a0.size : Int)) = false := decide_eq_false c3
      have c3b1 : decide (0 < a0.size) = false := decide_eq_false (by omega)
      clear c3
      (first | rw [c3b0] | (simp only [i64_w, i32_w]; rw [c3b0]) | skip)
      have H' := Aside0.mk H
      clear H
      go_wp2
      go_meet
      case rel => exact ⟨_, (false), (by first | rfl | (simp; done) | (simp [*]; done)), H', ⟨by first | omega | exact Nat.le_refl _⟩, by repeat (first | exact Drawn0.refl _ | apply Drawn0.step)⟩
  case rest =>
    clear HC2
    try clear p2
    try clear c3
    try clear c3b0
    try clear c3b1
    try clear p4
    try clear q4
    try clear hx4
    try clear qi4
    try clear c5
    try clear c5b0
    try clear c5b1
    try clear p6
    try clear q6
    try clear hx6
    try clear qi6
    try clear p4
    try clear p6
    try clear q4
    try clear q6
    obtain ⟨kq, x21_1, rfl, HA, HJ1, ⟨mc1, rfl⟩⟩ := hcut
    cases kq with
    | zero => exact absurd HA.out (by simp [cast_zzNumber.j0])
    | succ kj1 =>
      have H := HA.out
      clear HA
      simp only [cast_zzNumber.j0] at H
      have HC7 := Aside0.mk H
      clear H
      go_upto_if 21 with (fail)
      go_cut [4] (fun v4 wc => ∃ (kq : Nat) (x4_6 : Int), v4 = .int .i64 x4_6 ∧ Aside0 (cast_zzNumber.j1 kq a0 x4_6 = some (r1, r2)) ∧ Aside0 (kq ≤ kj1) ∧ Drawn0 w wc)
      case first =>
        have H := HC7.out
        clear HC7
        by_cases c8 : x21_1 = true
        · subst c8
          have H1 : (cast_zzNumber.j1 kj1 a0 (wrap64 (0 + 1))) = some (r1, r2) := by rw [if_pos rfl] at H; exact H
          clear H
          have H := H1
          clear H1
          have H' := Aside0.mk H
          clear H
          go_wp2
          go_meet
          case rel => exact ⟨_, (wrap64 (0 + 1)), (by first | (congr 1; unfold wrap64; omega) | rfl | (simp; done) | (simp [*]; done)), H', ⟨by have := HJ1.out; first | omega | exact Nat.le_refl _⟩, by repeat (first | exact Drawn0.refl _ | apply Drawn0.step)⟩
        · replace c8 := Bool.eq_false_iff.mpr c8
          subst c8
          have H1 : (cast_zzNumber.j1 kj1 a0 0) = some (r1, r2) := by rw [if_neg (show ¬ (false = true) by decide)] at H; exact H
          clear H
          have H := H1
          clear H1
          have H' := Aside0.mk H
          clear H
          go_wp2
          go_meet
          case rel => exact ⟨_, (0), (by first | rfl | (simp; done) | (simp [*]; done)), H', ⟨by have := HJ1.out; first | omega | exact Nat.le_refl _⟩, by repeat (first | exact Drawn0.refl _ | apply Drawn0.step)⟩
      case rest =>
        clear HC7
        try clear c1
        try clear p2
        try clear c3
        try clear c3b0
        try clear c3b1
        try clear p4
        try clear q4
        try clear hx4
        try clear qi4
        try clear c5
        try clear c5b0
        try clear c5b1
        try clear p6
        try clear q6
        try clear hx6
        try clear qi6
        try clear c8
        try clear p2
        try clear p4
        try clear p6
        try clear q4
        try clear q6
        obtain ⟨kq, x4_6, rfl, HA, HJ6, ⟨mc6, rfl⟩⟩ := hcut
        cases kq with
        | zero => exact absurd HA.out (by simp [cast_zzNumber.j1])
        | succ kj6 =>
          have H := HA.out
          clear HA
          simp only [cast_zzNumber.j1] at H
          have HC9 := Aside0.mk H
          clear H
          go_upto_block 0 with (fail)
          go_cut [4] (fun v4 wc => ∃ (kq : Nat) (x4_8 : Int), v4 = .int .i64 x4_8 ∧ Aside0 (cast_zzNumber.j3 kq a0 x4_8 = some (r1, r2)) ∧ Aside0 (kq ≤ kj6) ∧ Drawn0 w wc)
          case first =>
            have H := HC9.out
            clear HC9
            have H' := Aside0.mk H
            clear H
            go_wp2
            go_loopg [4] kj6 (fun kq v4 w' => ∃ (x4_3 : Int), v4 = .int .i64 x4_3 ∧ Aside0 (cast_zzNumber.l0 kq a0 x4_3 = some (r1, r2)) ∧ Aside0 (kq ≤ kj6) ∧ Drawn0 w w')
            case atStart => exact ⟨(x4_6), (by first | rfl | (simp; done) | (simp [*]; done)), H', ⟨Nat.le_refl _⟩, by repeat (first | exact Drawn0.refl _ | apply Drawn0.step)⟩
            case round =>
              clear H'
              try clear c1
              try clear p2
              try clear c3
              try clear c3b0
              try clear c3b1
              try clear p4
              try clear q4
              try clear hx4
              try clear qi4
              try clear c5
              try clear c5b0
              try clear c5b1
              try clear c6
              try clear p6
              try clear q6
              try clear hx6
              try clear qi6
              try clear c8
              try clear p2
              try clear p4
              try clear p6
              try clear q4
              try clear q6
              obtain ⟨x4_3, rfl, HA, HK3, ⟨m3, rfl⟩⟩ := hrel
              cases gk with
              | zero => exact absurd HA.out (by simp [cast_zzNumber.l0])
              | succ k3 =>
                have H := HA.out
                clear HA
                simp only [cast_zzNumber.l0] at H
                by_cases c10 : x4_3 < (a0.size : Int)
                · rw [if_pos c10] at H
                  have c10b0 : decide (x4_3 < (a0.size : Int)) = true := decide_eq_true c10
                  clear c10
                  (first | rw [c10b0] | (simp only [i64_w, i32_w]; rw [c10b0]) | skip)
                  by_cases c11 : 0 ≤ x4_3
                  · rw [if_pos c11] at H
                    have c11b0 : decide (0 ≤ x4_3) = true := decide_eq_true c11
                    clear c11
                    by_cases c13 : 48 ≤ (bt a0 x4_3)
                    · rw [if_pos c13] at H
                      have c13b0 : decide (48 ≤ (bt a0 x4_3)) = true := decide_eq_true c13
                      clear c13
                      by_cases c15 : (bt a0 x4_3) ≤ 57
                      · rw [if_pos c15] at H
                        have c15b0 : decide ((bt a0 x4_3) ≤ 57) = true := decide_eq_true c15
                        clear c15
                        have H' := Aside0.mk H
                        clear H
                        have p12 : 0 ≤ (x4_3 : Int) := of_decide_eq_true (by first | (with_reducible assumption) | assumption)
                        have q12 : x4_3 < (a0.size : Int) := of_decide_eq_true (by first | (with_reducible assumption) | assumption)
                        have hx12 := bt_at a0 x4_3
                        replace p12 := eq_true p12
                        replace q12 := eq_true q12
                        have p14 : 0 ≤ (x4_3 : Int) := of_decide_eq_true (by first | (with_reducible assumption) | assumption)
                        have q14 : x4_3 < (a0.size : Int) := of_decide_eq_true (by first | (with_reducible assumption) | assumption)
                        have hx14 := bt_at a0 x4_3
                        replace p14 := eq_true p14
                        replace q14 := eq_true q14
                        go_wp2
                        go_roundg k3
                        case measure => have := HJ1.out; have := HJ6.out; have := HK3.out; omega
                        case rel => exact ⟨(wrap64 (x4_3 + 1)), (by first | rfl | (simp; done) | (simp [*]; done)), H', ⟨by have := HJ1.out; have := HJ6.out; have := HK3.out; omega⟩, by repeat (first | exact Drawn0.refl _ | apply Drawn0.step)⟩
                      · rw [if_neg c15] at H
                        have c15b0 : decide ((bt a0 x4_3) ≤ 57) = false := decide_eq_false c15
                        clear c15
                        have H' := Aside0.mk H
                        clear H
                        have p12 : 0 ≤ (x4_3 : Int) := of_decide_eq_true (by first | (with_reducible assumption) | assumption)
                        have q12 : x4_3 < (a0.size : Int) := of_decide_eq_true (by first | (with_reducible assumption) | assumption)
                        have hx12 := bt_at a0 x4_3
                        replace p12 := eq_true p12
                        replace q12 := eq_true q12
                        have p14 : 0 ≤ (x4_3 : Int) := of_decide_eq_true (by first | (with_reducible assumption) | assumption)
                        have q14 : x4_3 < (a0.size : Int) := of_decide_eq_true (by first | (with_reducible assumption) | assumption)
                        have hx14 := bt_at a0 x4_3
                        replace p14 := eq_true p14
                        replace q14 := eq_true q14
                        go_wp2
                        go_meet
                        case rel => exact ⟨_, (x4_3), (by first | rfl | (simp; done) | (simp [*]; done)), H', ⟨by have := HJ1.out; have := HJ6.out; have := HK3.out; first | omega | exact Nat.le_refl _⟩, by repeat (first | exact Drawn0.refl _ | apply Drawn0.step)⟩
                    · rw [if_neg c13] at H
                      have c13b0 : decide (48 ≤ (bt a0 x4_3)) = false := decide_eq_false c13
                      clear c13
                      have H' := Aside0.mk H
                      clear H
                      have p12 : 0 ≤ (x4_3 : Int) := of_decide_eq_true (by first | (with_reducible assumption) | assumption)
                      have q12 : x4_3 < (a0.size : Int) := of_decide_eq_true (by first | (with_reducible assumption) | assumption)
                      have hx12 := bt_at a0 x4_3
                      replace p12 := eq_true p12
                      replace q12 := eq_true q12
                      go_wp2
                      go_meet
                      case rel => exact ⟨_, (x4_3), (by first | rfl | (simp; done) | (simp [*]; done)), H', ⟨by have := HJ1.out; have := HJ6.out; have := HK3.out; first | omega | exact Nat.le_refl _⟩, by repeat (first | exact Drawn0.refl _ | apply Drawn0.step)⟩
                  · rw [if_neg c11] at H
                    exact absurd H (by simp)
                · rw [if_neg c10] at H
                  have c10b0 : decide (x4_3 < (a0.size : Int)) = false := decide_eq_false c10
                  clear c10
                  (first | rw [c10b0] | (simp only [i64_w, i32_w]; rw [c10b0]) | skip)
                  have H' := Aside0.mk H
                  clear H
                  go_wp2
                  go_meet
                  case rel => exact ⟨_, (x4_3), (by first | rfl | (simp; done) | (simp [*]; done)), H', ⟨by have := HJ1.out; have := HJ6.out; have := HK3.out; first | omega | exact Nat.le_refl _⟩, by repeat (first | exact Drawn0.refl _ | apply Drawn0.step)⟩
          case rest =>
            clear HC9
            try clear c1
            try clear p1
            try clear q1
            try clear hx1
            try clear p2
            try clear c3
            try clear c3b0
            try clear c3b1
            try clear p4
            try clear q4
            try clear hx4
            try clear qi4
            try clear c5
            try clear c5b0
            try clear c5b1
            try clear c6
            try clear p6
            try clear q6
            try clear hx6
            try clear qi6
            try clear c8
            try clear c10
            try clear c10b0
            try clear c11
            try clear c11b0
            try clear p12
            try clear q12
            try clear hx12
            try clear c13
            try clear c13b0
            try clear p14
            try clear q14
            try clear hx14
            try clear c15
            try clear c15b0
            try clear p12
            try clear p14
            try clear p2
            try clear p4
            try clear p6
            try clear q12
            try clear q14
            try clear q4
            try clear q6
            obtain ⟨kq, x4_8, rfl, HA, HJ8, ⟨mc8, rfl⟩⟩ := hcut
            cases kq with
            | zero => exact absurd HA.out (by simp [cast_zzNumber.j3])
            | succ kj8 =>
              have H := HA.out
              clear HA
              simp only [cast_zzNumber.j3] at H
              by_cases c16 : 0 ≤ x4_8
              · rw [if_pos c16] at H
                have c16b0 := eq_true c16
                have c16b1 : decide (0 ≤ x4_8) = true := decide_eq_true c16
                clear c16
                by_cases c17 : x4_8 ≤ (a0.size : Int)
                · rw [if_pos c17] at H
                  have c17b0 := eq_true c17
                  have c17b1 : decide (x4_8 ≤ (a0.size : Int)) = true := decide_eq_true c17
                  clear c17
                  have HC18 := Aside0.mk H
                  clear H
                  go_upto_region 7 with (fail)
                  go_cut [54] (fun v54 wc => ∃ (kq : Nat) (x54_17 : Bool), v54 = .bool x54_17 ∧ Aside0 (cast_zzNumber.j4 kq a0 x4_8 (a0.extract 0 (x4_8 : Int).toNat) x54_17 = some (r1, r2)) ∧ Aside0 (kq ≤ kj8) ∧ Drawn0 w wc)
                  case first =>
                    have H := HC18.out
                    clear HC18
                    by_cases c19 : x4_8 < (a0.size : Int)
                    · rw [if_pos c19] at H
                      have c19b0 : decide (x4_8 < (a0.size : Int)) = true := decide_eq_true c19
                      clear c19
                      (first | rw [c19b0] | (simp only [i64_w, i32_w]; rw [c19b0]) | skip)
                      have H' := Aside0.mk H
                      clear H
                      have p20 : 0 ≤ (x4_8 : Int) := of_decide_eq_true (by first | (with_reducible assumption) | assumption)
                      have q20 : x4_8 < (a0.size : Int) := of_decide_eq_true (by first | (with_reducible assumption) | assumption)
                      have hx20 := bt_at a0 x4_8
                      replace p20 := eq_true p20
                      replace q20 := eq_true q20
                      go_wp2
                      go_meet
                      case rel => exact ⟨_, (((bt a0 x4_8) == 46)), (by first | rfl | (simp; done) | (simp [*]; done)), H', ⟨by have := HJ1.out; have := HJ6.out; have := HJ8.out; first | omega | exact Nat.le_refl _⟩, by repeat (first | exact Drawn0.refl _ | apply Drawn0.step)⟩
                    · rw [if_neg c19] at H
                      have c19b0 : decide (x4_8 < (a0.size : Int)) = false := decide_eq_false c19
                      clear c19
                      (first | rw [c19b0] | (simp only [i64_w, i32_w]; rw [c19b0]) | skip)
                      have H' := Aside0.mk H
                      clear H
                      go_wp2
                      go_meet
                      case rel => exact ⟨_, (false), (by first | rfl | (simp; done) | (simp [*]; done)), H', ⟨by have := HJ1.out; have := HJ6.out; have := HJ8.out; first | omega | exact Nat.le_refl _⟩, by repeat (first | exact Drawn0.refl _ | apply Drawn0.step)⟩
                  case rest =>
                    clear HC18
                    try clear c1
                    try clear p1
                    try clear q1
                    try clear hx1
                    try clear p2
                    try clear q2
                    try clear hx2
                    try clear c3
                    try clear c3b0
                    try clear c3b1
                    try clear p4
                    try clear q4
                    try clear hx4
                    try clear qi4
                    try clear c5
                    try clear c5b0
                    try clear c5b1
                    try clear c6
                    try clear p6
                    try clear q6
                    try clear hx6
                    try clear qi6
                    try clear c8
                    try clear c10
                    try clear c10b0
                    try clear c11
                    try clear c11b0
                    try clear p12
                    try clear q12
                    try clear hx12
                    try clear c13
                    try clear c13b0
                    try clear p14
                    try clear q14
                    try clear hx14
                    try clear c15
                    try clear c15b0
                    try clear c16
                    try clear c16b0
                    try clear c16b1
                    try clear c17
                    try clear c17b0
                    try clear c17b1
                    try clear c19
                    try clear c19b0
                    try clear p20
                    try clear q20
                    try clear hx20
                    try clear p1
                    try clear p12
                    try clear p14
                    try clear p2
                    try clear p20
                    try clear p4
                    try clear p6
                    try clear q1
                    try clear q12
                    try clear q14
                    try clear q20
                    try clear q4
                    try clear q6
                    obtain ⟨kq, x54_17, rfl, HA, HJ17, ⟨mc17, rfl⟩⟩ := hcut
                    cases kq with
                    | zero => exact absurd HA.out (by simp [cast_zzNumber.j4])
                    | succ kj17 =>
                      have H := HA.out
                      clear HA
                      simp only [cast_zzNumber.j4] at H
                      by_cases c21 : x54_17 = true
                      · subst c21
                        have H1 : (cast_zzNumber.l1 kj17 a0 (wrap64 (x4_8 + 1)) (a0.extract 0 (x4_8 : Int).toNat)) = some (r1, r2) := by rw [if_pos rfl] at H; exact H
                        clear H
                        have H := H1
                        clear H1
                        have H' := Aside0.mk H
                        clear H
                        go_wp2
                        go_loopg [4] kj17 (fun kq v4 w' => ∃ (x4_5 : Int), v4 = .int .i64 x4_5 ∧ Aside0 (cast_zzNumber.l1 kq a0 x4_5 (a0.extract 0 (x4_8 : Int).toNat) = some (r1, r2)) ∧ Aside0 (kq ≤ kj17) ∧ Drawn0 w w')
                        case atStart => exact ⟨(wrap64 (x4_8 + 1)), (by first | rfl | (simp; done) | (simp [*]; done)), H', ⟨Nat.le_refl _⟩, by repeat (first | exact Drawn0.refl _ | apply Drawn0.step)⟩
                        case round =>
                          clear H'
                          try clear c1
                          try clear p1
                          try clear q1
                          try clear hx1
                          try clear c2
                          try clear p2
                          try clear q2
                          try clear hx2
                          try clear c3
                          try clear c3b0
                          try clear c3b1
                          try clear p4
                          try clear q4
                          try clear hx4
                          try clear qi4
                          try clear c5
                          try clear c5b0
                          try clear c5b1
                          try clear c6
                          try clear p6
                          try clear q6
                          try clear hx6
                          try clear qi6
                          try clear c8
                          try clear c10
                          try clear c10b0
                          try clear c11
                          try clear c11b0
                          try clear p12
                          try clear q12
                          try clear hx12
                          try clear c13
                          try clear c13b0
                          try clear p14
                          try clear q14
                          try clear hx14
                          try clear c15
                          try clear c15b0
                          try clear c16
                          try clear c16b0
                          try clear c16b1
                          try clear c17
                          try clear c17b0
                          try clear c17b1
                          try clear c19
                          try clear c19b0
                          try clear p20
                          try clear q20
                          try clear hx20
                          try clear c21
                          try clear p1
                          try clear p12
                          try clear p14
                          try clear p2
                          try clear p20
                          try clear p4
                          try clear p6
                          try clear q1
                          try clear q12
                          try clear q14
                          try clear q2
                          try clear q20
                          try clear q4
                          try clear q6
                          obtain ⟨x4_5, rfl, HA, HK5, ⟨m5, rfl⟩⟩ := hrel
                          cases gk with
                          | zero => exact absurd HA.out (by simp [cast_zzNumber.l1])
                          | succ k5 =>
                            have H := HA.out
                            clear HA
                            simp only [cast_zzNumber.l1] at H
                            by_cases c22 : x4_5 < (a0.size : Int)
                            · rw [if_pos c22] at H
                              have c22b0 : decide (x4_5 < (a0.size : Int)) = true := decide_eq_true c22
                              clear c22
                              by_cases c23 : 0 ≤ x4_5
                              · rw [if_pos c23] at H
                                have c23b0 : decide (0 ≤ x4_5) = true := decide_eq_true c23
                                clear c23
                                by_cases c25 : 48 ≤ (bt a0 x4_5)
                                · rw [if_pos c25] at H
                                  have c25b0 : decide (48 ≤ (bt a0 x4_5)) = true := decide_eq_true c25
                                  clear c25
                                  by_cases c27 : (bt a0 x4_5) ≤ 57
                                  · rw [if_pos c27] at H
                                    have c27b0 : decide ((bt a0 x4_5) ≤ 57) = true := decide_eq_true c27
                                    clear c27
                                    have H' := Aside0.mk H
                                    clear H
                                    have p24 : 0 ≤ (x4_5 : Int) := of_decide_eq_true (by first | (with_reducible assumption) | assumption)
                                    have q24 : x4_5 < (a0.size : Int) := of_decide_eq_true (by first | (with_reducible assumption) | assumption)
                                    have hx24 := bt_at a0 x4_5
                                    replace p24 := eq_true p24
                                    replace q24 := eq_true q24
                                    have p26 : 0 ≤ (x4_5 : Int) := of_decide_eq_true (by first | (with_reducible assumption) | assumption)
                                    have q26 : x4_5 < (a0.size : Int) := of_decide_eq_true (by first | (with_reducible assumption) | assumption)
                                    have hx26 := bt_at a0 x4_5
                                    replace p26 := eq_true p26
                                    replace q26 := eq_true q26
                                    go_wp2
                                    go_roundg k5
                                    case measure => have := HJ1.out; have := HJ6.out; have := HJ8.out; have := HJ17.out; have := HK5.out; omega
                                    case rel => exact ⟨(wrap64 (x4_5 + 1)), (by first | rfl | (simp; done) | (simp [*]; done)), H', ⟨by have := HJ1.out; have := HJ6.out; have := HJ8.out; have := HJ17.out; have := HK5.out; omega⟩, by repeat (first | exact Drawn0.refl _ | apply Drawn0.step)⟩
                                  · rw [if_neg c27] at H
                                    have c27b0 : decide ((bt a0 x4_5) ≤ 57) = false := decide_eq_false c27
                                    clear c27
                                    simp only [Option.some.injEq, Prod.mk.injEq] at H
                                    obtain ⟨rfl, rfl⟩ := H
                                    have p24 : 0 ≤ (x4_5 : Int) := of_decide_eq_true (by first | (with_reducible assumption) | assumption)
                                    have q24 : x4_5 < (a0.size : Int) := of_decide_eq_true (by first | (with_reducible assumption) | assumption)
                                    have hx24 := bt_at a0 x4_5
                                    replace p24 := eq_true p24
                                    replace q24 := eq_true q24
                                    have p26 : 0 ≤ (x4_5 : Int) := of_decide_eq_true (by first | (with_reducible assumption) | assumption)
                                    have q26 : x4_5 < (a0.size : Int) := of_decide_eq_true (by first | (with_reducible assumption) | assumption)
                                    have hx26 := bt_at a0 x4_5
                                    replace p26 := eq_true p26
                                    replace q26 := eq_true q26
                                    go_wp2
                                    go_ret2
                                    exact ⟨by first | rfl | (simp; done) | (simp [*]; done), by repeat (first | exact Drawn0.refl _ | apply Drawn0.step)⟩
                                · rw [if_neg c25] at H
                                  have c25b0 : decide (48 ≤ (bt a0 x4_5)) = false := decide_eq_false c25
                                  clear c25
                                  simp only [Option.some.injEq, Prod.mk.injEq] at H
                                  obtain ⟨rfl, rfl⟩ := H
                                  have p24 : 0 ≤ (x4_5 : Int) := of_decide_eq_true (by first | (with_reducible assumption) | assumption)
                                  have q24 : x4_5 < (a0.size : Int) := of_decide_eq_true (by first | (with_reducible assumption) | assumption)
                                  have hx24 := bt_at a0 x4_5
                                  replace p24 := eq_true p24
                                  replace q24 := eq_true q24
                                  go_wp2
                                  go_ret2
                                  exact ⟨by first | rfl | (simp; done) | (simp [*]; done), by repeat (first | exact Drawn0.refl _ | apply Drawn0.step)⟩
                              · rw [if_neg c23] at H
                                exact absurd H (by simp)
                            · rw [if_neg c22] at H
                              have c22b0 : decide (x4_5 < (a0.size : Int)) = false := decide_eq_false c22
                              clear c22
                              simp only [Option.some.injEq, Prod.mk.injEq] at H
                              obtain ⟨rfl, rfl⟩ := H
                              go_wp2
                              go_ret2
                              exact ⟨by first | rfl | (simp; done) | (simp [*]; done), by repeat (first | exact Drawn0.refl _ | apply Drawn0.step)⟩
                      · replace c21 := Bool.eq_false_iff.mpr c21
                        subst c21
                        have H1 : (some ((a0.extract 0 (x4_8 : Int).toNat), (x4_8 == (a0.size : Int)))) = some (r1, r2) := by rw [if_neg (show ¬ (false = true) by decide)] at H; exact H
                        clear H
                        have H := H1
                        clear H1
                        simp only [Option.some.injEq, Prod.mk.injEq] at H
                        obtain ⟨rfl, rfl⟩ := H
                        go_wp2
                        go_ret2
                        exact ⟨by first | rfl | (simp; done) | (simp [*]; done), by repeat (first | exact Drawn0.refl _ | apply Drawn0.step)⟩
                · rw [if_neg c17] at H
                  exact absurd H (by simp)
              · rw [if_neg c16] at H
                exact absurd H (by simp)

/-! ### cast_trimDecimal: function 68 -/
def cast_trimDecimal.j0 : Nat → ByteArray → ByteArray → Bool → Option (ByteArray)
  | 0, _, _, _ => none
  | k + 1, x0, x16, x17 => if x17 = true then (if x0.size + 1 ≤ 9223372036854775807 then (some (x0 ++ (⟨#[48]⟩ : ByteArray))) else (none)) else (if x16.toList = ([] : List UInt8) then (some (⟨#[48]⟩ : ByteArray)) else (some x0))
def cast_trimDecimal.f (k : Nat) (a0 : ByteArray) : Option (ByteArray) := (cast_zzContains.f k a0 (⟨#[46]⟩ : ByteArray)).bind fun t136 => (if t136 = true then ((cast_zzNumber.f k a0).bind fun bt137 => (if bt137.2 = true then (if bt137.1.toList = ([45] : List UInt8) then (cast_trimDecimal.j0 k bt137.1 bt137.1 (bt137.1.toList == ([45] : List UInt8))) else (cast_trimDecimal.j0 k bt137.1 bt137.1 (bt137.1.toList == ([43] : List UInt8)))) else (some a0))) else (some a0))
theorem cast_trimDecimal.mono_l : ∀ k, (∀ y0 y1 y2, LeO (cast_trimDecimal.j0 k y0 y1 y2) (cast_trimDecimal.j0 (k + 1) y0 y1 y2))
  | 0 => fun _ _ _ r h => by simp [cast_trimDecimal.j0] at h
  | k + 1 => by
    have ih0 := cast_trimDecimal.mono_l k
    · intro y0 y1 y2
      unfold cast_trimDecimal.j0
      repeat' first
      | (with_reducible exact ih0 _ _ _)
      | (with_reducible exact cast_zzContains.mono _ _ _)
      | (with_reducible exact cast_zzNumber.mono _ _)
      | (with_reducible exact LeO.refl _)
      | (with_reducible exact LeO.none _)
      | (with_reducible refine LeO.ite ?_ ?_)
      | (with_reducible refine LeO.bind ?_ (fun _ => ?_))
      | exact ih0 _ _ _
      | exact cast_zzContains.mono _ _ _
      | exact cast_zzNumber.mono _ _
      | exact LeO.none _
      | refine LeO.ite ?_ ?_
      | refine LeO.bind ?_ (fun _ => ?_)
theorem cast_trimDecimal.mono : ∀ a0 k, LeO (cast_trimDecimal.f k a0) (cast_trimDecimal.f (k + 1) a0) := by
  intro a0 k
  have ih0 := cast_trimDecimal.mono_l k
  unfold cast_trimDecimal.f
  repeat' first
      | (with_reducible exact ih0 _ _ _)
      | (with_reducible exact cast_zzContains.mono _ _ _)
      | (with_reducible exact cast_zzNumber.mono _ _)
      | (with_reducible exact LeO.refl _)
      | (with_reducible exact LeO.none _)
      | (with_reducible refine LeO.ite ?_ ?_)
      | (with_reducible refine LeO.bind ?_ (fun _ => ?_))
      | exact ih0 _ _ _
      | exact cast_zzContains.mono _ _ _
      | exact cast_zzNumber.mono _ _
      | exact LeO.none _
      | refine LeO.ite ?_ ?_
      | refine LeO.bind ?_ (fun _ => ?_)
set_option maxHeartbeats 8000000 in
set_option maxRecDepth 100000 in
theorem cast_trimDecimal.calls (k : Nat) (a0 : ByteArray) (r : ByteArray) (w : World) (h : cast_trimDecimal.f k a0 = some r) :
    Calls Tryz.prog 68 #[.string a0] w fun e w' => e = .returned (.string r) ∧ Drawn0 w w' := by
  have H : ((cast_zzContains.f k a0 (⟨#[46]⟩ : ByteArray)).bind fun t136 => (if t136 = true then ((cast_zzNumber.f k a0).bind fun bt137 => (if bt137.2 = true then (if bt137.1.toList = ([45] : List UInt8) then (cast_trimDecimal.j0 k bt137.1 bt137.1 (bt137.1.toList == ([45] : List UInt8))) else (cast_trimDecimal.j0 k bt137.1 bt137.1 (bt137.1.toList == ([43] : List UInt8)))) else (some a0))) else (some a0))) = some r := h
  clear h
  replace H := Option.bind_eq_some_iff.mp H
  obtain ⟨t136, A20, H⟩ := H
  replace H : (if t136 = true then ((cast_zzNumber.f k a0).bind fun bt137 => (if bt137.2 = true then (if bt137.1.toList = ([45] : List UInt8) then (cast_trimDecimal.j0 k bt137.1 bt137.1 (bt137.1.toList == ([45] : List UInt8))) else (cast_trimDecimal.j0 k bt137.1 bt137.1 (bt137.1.toList == ([43] : List UInt8)))) else (some a0))) else (some a0)) = some r := H
  have A2 := Aside0.mk A20
  clear A20
  by_cases c3 : t136 = true
  · subst c3
    have H1 : ((cast_zzNumber.f k a0).bind fun bt137 => (if bt137.2 = true then (if bt137.1.toList = ([45] : List UInt8) then (cast_trimDecimal.j0 k bt137.1 bt137.1 (bt137.1.toList == ([45] : List UInt8))) else (cast_trimDecimal.j0 k bt137.1 bt137.1 (bt137.1.toList == ([43] : List UInt8)))) else (some a0))) = some r := by rw [if_pos rfl] at H; exact H
    clear H
    have H := H1
    clear H1
    replace H := Option.bind_eq_some_iff.mp H
    obtain ⟨⟨t137, t138⟩, A40, H⟩ := H
    replace H : (if t138 = true then (if t137.toList = ([45] : List UInt8) then (cast_trimDecimal.j0 k t137 t137 (t137.toList == ([45] : List UInt8))) else (cast_trimDecimal.j0 k t137 t137 (t137.toList == ([43] : List UInt8)))) else (some a0)) = some r := H
    have A4 := Aside0.mk A40
    clear A40
    by_cases c5 : t138 = true
    · subst c5
      have H1 : (if t137.toList = ([45] : List UInt8) then (cast_trimDecimal.j0 k t137 t137 (t137.toList == ([45] : List UInt8))) else (cast_trimDecimal.j0 k t137 t137 (t137.toList == ([43] : List UInt8)))) = some r := by rw [if_pos rfl] at H; exact H
      clear H
      have H := H1
      clear H1
      have HC6 := Aside0.mk H
      clear H
      go_enter Tryz.func68, Tryz.ntmps68
      go_upto_if 17 with (first | ((with_reducible refine gate_callee (f := 81) rfl ?_); refine goesL_ (some 6) rfl rfl Tryz.func81 (by kernel_rfl) rfl #[.string a0, .string (⟨#[46]⟩ : ByteArray)] rfl (by (try simp only [List.map_toArray, List.map_cons, List.map_nil]); first | done | rfl | (simp only [List.length_drop, List.length_take]; rfl)) ?_; (with_reducible refine (cast_zzContains.calls k a0 (⟨#[46]⟩ : ByteArray) true _ A2.out).mono ?_); rintro e w' ⟨rfl, ⟨nd, rfl⟩⟩; refine ⟨_, rfl, ?_⟩) | ((with_reducible refine gate_callee (f := 82) rfl ?_); refine goesL_ (some 11) rfl rfl Tryz.func82 (by kernel_rfl) rfl #[.string a0] rfl (by (try simp only [List.map_toArray, List.map_cons, List.map_nil]); first | done | rfl | (simp only [List.length_drop, List.length_take]; rfl)) ?_; (with_reducible refine (cast_zzNumber.calls k a0 t137 true _ A4.out).mono ?_); rintro e w' ⟨rfl, ⟨nd, rfl⟩⟩; refine ⟨_, rfl, ?_⟩))
      (try simp only [Act.put, List.setIfInBounds_toArray, List.set_cons_zero, List.set_cons_succ])
      go_cut [17] (fun v17 wc => ∃ (kq : Nat) (x17_5 : Bool), v17 = .bool x17_5 ∧ Aside0 (cast_trimDecimal.j0 kq t137 t137 x17_5 = some r) ∧ Aside0 (kq ≤ k) ∧ Drawn0 w wc)
      case first =>
        have H := HC6.out
        clear HC6
        by_cases c7 : t137.toList = ([45] : List UInt8)
        · rw [if_pos c7] at H
          have c7b0 : (t137.toList == ([45] : List UInt8)) = true := beq_iff_eq.mpr c7
          have c7b1 : (t137.toList != ([45] : List UInt8)) = false := bne_eq_false_iff_eq.mpr c7
          clear c7
          (first | rw [c7b0] | (simp only [i64_w, i32_w]; rw [c7b0]) | skip)
          have H' := Aside0.mk H
          clear H
          go_wp2
          go_meet
          case rel => exact ⟨_, ((t137.toList == ([45] : List UInt8))), (by first | rfl | (simp; done) | (simp [*]; done)), H', ⟨by first | omega | exact Nat.le_refl _⟩, by repeat (first | exact Drawn0.refl _ | apply Drawn0.step)⟩
        · rw [if_neg c7] at H
          have c7b0 : (t137.toList == ([45] : List UInt8)) = false := beq_eq_false_iff_ne.mpr c7
          have c7b1 : (t137.toList != ([45] : List UInt8)) = true := bne_iff_ne.mpr c7
          (first | rw [c7b0] | (simp only [i64_w, i32_w]; rw [c7b0]) | skip)
          have H' := Aside0.mk H
          clear H
          go_wp2
          go_meet
          case rel => exact ⟨_, ((t137.toList == ([43] : List UInt8))), (by first | rfl | (simp; done) | (simp [*]; done)), H', ⟨by first | omega | exact Nat.le_refl _⟩, by repeat (first | exact Drawn0.refl _ | apply Drawn0.step)⟩
      case rest =>
        clear HC6
        try clear p2
        try clear c3
        try clear c5
        try clear c6
        try clear c7
        try clear c7b0
        try clear c7b1
        obtain ⟨kq, x17_5, rfl, HA, HJ5, ⟨mc5, rfl⟩⟩ := hcut
        cases kq with
        | zero => exact absurd HA.out (by simp [cast_trimDecimal.j0])
        | succ kj5 =>
          have H := HA.out
          clear HA
          simp only [cast_trimDecimal.j0] at H
          by_cases c8 : x17_5 = true
          · subst c8
            have H1 : (if t137.size + 1 ≤ 9223372036854775807 then (some (t137 ++ (⟨#[48]⟩ : ByteArray))) else (none)) = some r := by rw [if_pos rfl] at H; exact H
            clear H
            have H := H1
            clear H1
            by_cases c9 : t137.size + 1 ≤ 9223372036854775807
            · rw [if_pos c9] at H
              have c9b0 := eq_true c9
              have c9b1 : decide (t137.size + 1 ≤ 9223372036854775807) = true := decide_eq_true c9
              try have c9b2 : (9223372036854775807 < t137.size + 1) = False := eq_false (Nat.not_lt.2 c9)
              obtain rfl := Option.some.inj H
              go_wp2
              go_ret
              exact ⟨by first | rfl | (simp; done) | (simp [*]; done), by repeat (first | exact Drawn0.refl _ | apply Drawn0.step)⟩
            · rw [if_neg c9] at H
              exact absurd H (by simp)
          · replace c8 := Bool.eq_false_iff.mpr c8
            subst c8
            have H1 : (if t137.toList = ([] : List UInt8) then (some (⟨#[48]⟩ : ByteArray)) else (some t137)) = some r := by rw [if_neg (show ¬ (false = true) by decide)] at H; exact H
            clear H
            have H := H1
            clear H1
            by_cases c10 : t137.toList = ([] : List UInt8)
            · rw [if_pos c10] at H
              have c10b0 : (t137.toList == ([] : List UInt8)) = true := beq_iff_eq.mpr c10
              have c10b1 : (t137.toList != ([] : List UInt8)) = false := bne_eq_false_iff_eq.mpr c10
              clear c10
              obtain rfl := Option.some.inj H
              go_wp2
              go_ret
              exact ⟨by first | rfl | (simp; done) | (simp [*]; done), by repeat (first | exact Drawn0.refl _ | apply Drawn0.step)⟩
            · rw [if_neg c10] at H
              have c10b0 : (t137.toList == ([] : List UInt8)) = false := beq_eq_false_iff_ne.mpr c10
              have c10b1 : (t137.toList != ([] : List UInt8)) = true := bne_iff_ne.mpr c10
              obtain rfl := Option.some.inj H
              go_wp2
              go_ret
              exact ⟨by first | rfl | (simp; done) | (simp [*]; done), by repeat (first | exact Drawn0.refl _ | apply Drawn0.step)⟩
    · replace c5 := Bool.eq_false_iff.mpr c5
      subst c5
      have H1 : (some a0) = some r := by rw [if_neg (show ¬ (false = true) by decide)] at H; exact H
      clear H
      have H := H1
      clear H1
      obtain rfl := Option.some.inj H
      go_enter Tryz.func68, Tryz.ntmps68
      go_wp2_with (first | ((with_reducible refine gate_callee (f := 81) rfl ?_); refine goesL_ (some 6) rfl rfl Tryz.func81 (by kernel_rfl) rfl #[.string a0, .string (⟨#[46]⟩ : ByteArray)] rfl (by (try simp only [List.map_toArray, List.map_cons, List.map_nil]); first | done | rfl | (simp only [List.length_drop, List.length_take]; rfl)) ?_; (with_reducible refine (cast_zzContains.calls k a0 (⟨#[46]⟩ : ByteArray) true _ A2.out).mono ?_); rintro e w' ⟨rfl, ⟨nd, rfl⟩⟩; refine ⟨_, rfl, ?_⟩) | ((with_reducible refine gate_callee (f := 82) rfl ?_); refine goesL_ (some 11) rfl rfl Tryz.func82 (by kernel_rfl) rfl #[.string a0] rfl (by (try simp only [List.map_toArray, List.map_cons, List.map_nil]); first | done | rfl | (simp only [List.length_drop, List.length_take]; rfl)) ?_; (with_reducible refine (cast_zzNumber.calls k a0 t137 false _ A4.out).mono ?_); rintro e w' ⟨rfl, ⟨nd, rfl⟩⟩; refine ⟨_, rfl, ?_⟩))
      go_ret
      exact ⟨by first | rfl | (simp; done) | (simp [*]; done), by repeat (first | exact Drawn0.refl _ | apply Drawn0.step)⟩
  · replace c3 := Bool.eq_false_iff.mpr c3
    subst c3
    have H1 : (some a0) = some r := by rw [if_neg (show ¬ (false = true) by decide)] at H; exact H
    clear H
    have H := H1
    clear H1
    obtain rfl := Option.some.inj H
    go_enter Tryz.func68, Tryz.ntmps68
    go_wp2_with (first | ((with_reducible refine gate_callee (f := 81) rfl ?_); refine goesL_ (some 6) rfl rfl Tryz.func81 (by kernel_rfl) rfl #[.string a0, .string (⟨#[46]⟩ : ByteArray)] rfl (by (try simp only [List.map_toArray, List.map_cons, List.map_nil]); first | done | rfl | (simp only [List.length_drop, List.length_take]; rfl)) ?_; (with_reducible refine (cast_zzContains.calls k a0 (⟨#[46]⟩ : ByteArray) false _ A2.out).mono ?_); rintro e w' ⟨rfl, ⟨nd, rfl⟩⟩; refine ⟨_, rfl, ?_⟩))
    go_ret
    exact ⟨by first | rfl | (simp; done) | (simp [*]; done), by repeat (first | exact Drawn0.refl _ | apply Drawn0.step)⟩

end Go.Proofs.YtcfknhboicomjaaGreatDoor.PFnCastMapInt64s
