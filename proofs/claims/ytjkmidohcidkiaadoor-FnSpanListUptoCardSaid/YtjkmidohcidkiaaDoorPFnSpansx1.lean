-- PRINTED BY print.sh 35421559b90ae4d0a3588c463048766b98c2df88dd9212a6774a882060cdf62d: not written by this session
import Derived.Test.YtjkmidohcidkiaaDoorPFnSpansx0
namespace Go.Proofs.YtjkmidohcidkiaaDoor.PFnSpans
open Go.RowKit Go.Proofs.YtjkmidohcidkiaaDoorW.PrintWords Go.Proofs.YtjkmidohcidkiaaDoorW.PrintLast Go.Proofs.YtjkmidohcidkiaaDoorW.PrintMore
attribute [local go_sem] max2_int min2_int max_two min_two max_three min_three max_four min_four   -- for this text's walks alone
set_option linter.unusedVariables false
set_option linter.unusedSimpArgs false

/-! ### laws_zzFits2: function 5 -/
def laws_zzFits2.l0 : Nat → List ByteArray → Int → Int → Option (Bool)
  | 0, _, _, _ => none
  | k + 1, x8, x9, x10 => if x10 < x9 then (if 0 ≤ x10 then (if x10 < (x8.length : Int) then (if ((rdOf ByteArray.empty x8 x10).size : Int) > 2147483647 then (some false) else (laws_zzFits2.l0 k x8 x9 (wrap64 (x10 + 1)))) else (none)) else (none)) else (some true)
def laws_zzFits2.f (k : Nat) (l0 : List ByteArray) : Option (Bool) := if (l0.length : Int) > 2147483647 then (some false) else (laws_zzFits2.l0 k l0 (l0.length : Int) 0)
theorem laws_zzFits2.mono_l : ∀ k, (∀ y0 y1 y2, LeO (laws_zzFits2.l0 k y0 y1 y2) (laws_zzFits2.l0 (k + 1) y0 y1 y2))
  | 0 => fun _ _ _ r h => by simp [laws_zzFits2.l0] at h
  | k + 1 => by
    have ih0 := laws_zzFits2.mono_l k
    · intro y0 y1 y2
      unfold laws_zzFits2.l0
      repeat' first
      | (with_reducible exact ih0 _ _ _)
      | (with_reducible exact LeO.refl _)
      | (with_reducible exact LeO.none _)
      | (with_reducible refine LeO.ite ?_ ?_)
      | (with_reducible refine LeO.bind ?_ (fun _ => ?_))
      | exact ih0 _ _ _
      | exact LeO.none _
      | refine LeO.ite ?_ ?_
      | refine LeO.bind ?_ (fun _ => ?_)
theorem laws_zzFits2.mono : ∀ a0 k, LeO (laws_zzFits2.f k a0) (laws_zzFits2.f (k + 1) a0) := by
  intro a0 k
  have ih0 := laws_zzFits2.mono_l k
  unfold laws_zzFits2.f
  repeat' first
      | (with_reducible exact ih0 _ _ _)
      | (with_reducible exact LeO.refl _)
      | (with_reducible exact LeO.none _)
      | (with_reducible refine LeO.ite ?_ ?_)
      | (with_reducible refine LeO.bind ?_ (fun _ => ?_))
      | exact ih0 _ _ _
      | exact LeO.none _
      | refine LeO.ite ?_ ?_
      | refine LeO.bind ?_ (fun _ => ?_)
set_option maxHeartbeats 8000000 in
set_option maxRecDepth 100000 in
theorem laws_zzFits2.calls (k : Nat) (A0 : Option Addr) (c0 : Nat) (l0 : List ByteArray) (r : Bool) (w : World) (hr0 : Kd.C Kd.string w A0 l0.length l0) (hc0 : l0.length ≤ c0) (h : laws_zzFits2.f k l0 = some r) :
    Calls Tryd.prog 5 #[.slice A0 l0.length c0] w fun e w' => e = .returned (.bool r) ∧ Drawn0 w w' := by
  have HR0 := Aside0.mk hr0
  have HC0 := Aside0.mk hc0
  clear hr0 hc0
  have H : (if (l0.length : Int) > 2147483647 then (some false) else (laws_zzFits2.l0 k l0 (l0.length : Int) 0)) = some r := h
  clear h
  by_cases c2 : (l0.length : Int) > 2147483647
  · rw [if_pos c2] at H
    have c2b0 : decide (2147483647 < (l0.length : Int)) = true := decide_eq_true c2
    have c2b1 : decide (2147483647 < l0.length) = true := decide_eq_true (by omega)
    clear c2
    obtain rfl := Option.some.inj H
    go_enter Tryd.func5, Tryd.ntmps5
    go_wp2
    go_ret
    exact ⟨by first | rfl | (simp; done) | (simp [*]; done), by repeat (first | exact Drawn0.refl _ | apply Drawn0.step)⟩
  · rw [if_neg c2] at H
    have c2b0 : decide (2147483647 < (l0.length : Int)) = false := decide_eq_false c2
    have c2b1 : decide (2147483647 < l0.length) = false := decide_eq_false (by omega)
    clear c2
    have H' := Aside0.mk H
    clear H
    go_enter Tryd.func5, Tryd.ntmps5
    go_wp2
    go_loopg [10] k (fun kq v10 w' => ∃ (x10_1 : Int), v10 = .int .i64 x10_1 ∧ Aside0 (laws_zzFits2.l0 kq l0 (l0.length : Int) x10_1 = some r) ∧ Aside0 (kq ≤ k) ∧ Drawn0 w w')
    case atStart => exact ⟨(0), (by first | rfl | (simp; done) | (simp [*]; done)), H', ⟨Nat.le_refl _⟩, by repeat (first | exact Drawn0.refl _ | apply Drawn0.step)⟩
    case round =>
      clear H'
      try clear c2
      try clear c2b0
      try clear c2b1
      try clear p2
      obtain ⟨x10_1, rfl, HA, HK1, ⟨m1, rfl⟩⟩ := hrel
      cases gk with
      | zero => exact absurd HA.out (by simp [laws_zzFits2.l0])
      | succ k1 =>
        have H := HA.out
        clear HA
        simp only [laws_zzFits2.l0] at H
        by_cases c3 : x10_1 < (l0.length : Int)
        · rw [if_pos c3] at H
          have c3b0 : decide (x10_1 < (l0.length : Int)) = true := decide_eq_true c3
          clear c3
          by_cases c4 : 0 ≤ x10_1
          · rw [if_pos c4] at H
            have c4b0 : decide (0 ≤ x10_1) = true := decide_eq_true c4
            clear c4
            by_cases c5 : x10_1 < (l0.length : Int)
            · rw [if_pos c5] at H
              have c5b0 : decide (x10_1 < (l0.length : Int)) = true := decide_eq_true c5
              clear c5
              by_cases c6 : ((rdOf ByteArray.empty l0 x10_1).size : Int) > 2147483647
              · rw [if_pos c6] at H
                have c6b0 : decide (2147483647 < ((rdOf ByteArray.empty l0 x10_1).size : Int)) = true := decide_eq_true c6
                have c6b1 : decide (2147483647 < (rdOf ByteArray.empty l0 x10_1).size) = true := decide_eq_true (by omega)
                clear c6
                obtain rfl := Option.some.inj H
                have p101 : 0 ≤ (x10_1 : Int) := of_decide_eq_true (by first | (with_reducible assumption) | assumption)
                have q101 : x10_1 < (l0.length : Int) := of_decide_eq_true (by first | (with_reducible assumption) | assumption)
                obtain ⟨ad101, e101, hx101_0⟩ := Kd.at_string HR0.out x10_1 p101 q101
                cases e101
                replace p101 := eq_true p101
                replace q101 := eq_true q101
                go_wp2
                go_ret
                exact ⟨by first | rfl | (simp; done) | (simp [*]; done), by repeat (first | exact Drawn0.refl _ | apply Drawn0.step)⟩
              · rw [if_neg c6] at H
                have c6b0 : decide (2147483647 < ((rdOf ByteArray.empty l0 x10_1).size : Int)) = false := decide_eq_false c6
                have c6b1 : decide (2147483647 < (rdOf ByteArray.empty l0 x10_1).size) = false := decide_eq_false (by omega)
                clear c6
                have H' := Aside0.mk H
                clear H
                have p101 : 0 ≤ (x10_1 : Int) := of_decide_eq_true (by first | (with_reducible assumption) | assumption)
                have q101 : x10_1 < (l0.length : Int) := of_decide_eq_true (by first | (with_reducible assumption) | assumption)
                obtain ⟨ad101, e101, hx101_0⟩ := Kd.at_string HR0.out x10_1 p101 q101
                cases e101
                replace p101 := eq_true p101
                replace q101 := eq_true q101
                go_wp2
                go_roundg k1
                case measure => have := HK1.out; omega
                case rel => exact ⟨(wrap64 (x10_1 + 1)), (by first | rfl | (simp; done) | (simp [*]; done)), H', ⟨by have := HK1.out; omega⟩, by repeat (first | exact Drawn0.refl _ | apply Drawn0.step)⟩
            · rw [if_neg c5] at H
              exact absurd H (by simp)
          · rw [if_neg c4] at H
            exact absurd H (by simp)
        · rw [if_neg c3] at H
          have c3b0 : decide (x10_1 < (l0.length : Int)) = false := decide_eq_false c3
          clear c3
          obtain rfl := Option.some.inj H
          go_wp2
          go_ret
          exact ⟨by first | rfl | (simp; done) | (simp [*]; done), by repeat (first | exact Drawn0.refl _ | apply Drawn0.step)⟩

-- NOT PRINTED: function 32 (pflag_newDurationValue)

-- NOT PRINTED: function 17 (pflag_ZzDuration)

-- NOT PRINTED: function 42 (time_leadingInt_string)

-- NOT PRINTED: function 43 (time_leadingFraction)

-- NOT PRINTED: function 44 (time_quote)

-- NOT PRINTED: function 34 (time_ParseDuration)

-- NOT PRINTED: function 18 (pflag_durationValue_Set)

/-! ### time_fmtFrac: function 47 -/
def time_fmtFrac.l0 : Nat → List Int → Int → Int → Int → Bool → Int → Option (Int × Int × List Int)
  | 0, _, _, _, _, _, _ => none
  | k + 1, x0, x1, x2, x8, x9, x10 => if x10 < x2 then (if x9 = true then (if 0 ≤ (wrap64 (x8 - 1)) then (if (wrap64 (x8 - 1)) < (x0.length : Int) then (time_fmtFrac.l0 k (x0.set ((wrap64 (x8 - 1)) : Int).toNat ((((Int.tmod x1 10) % 256) + 48) % 256)) (IntKind.u64.wrap (Int.tdiv x1 10)) x2 (wrap64 (x8 - 1)) true (wrap64 (x10 + 1))) else (none)) else (none)) else (if (Int.tmod x1 10) = 0 then (time_fmtFrac.l0 k x0 (IntKind.u64.wrap (Int.tdiv x1 10)) x2 x8 ((Int.tmod x1 10) != 0) (wrap64 (x10 + 1))) else (if 0 ≤ (wrap64 (x8 - 1)) then (if (wrap64 (x8 - 1)) < (x0.length : Int) then (time_fmtFrac.l0 k (x0.set ((wrap64 (x8 - 1)) : Int).toNat ((((Int.tmod x1 10) % 256) + 48) % 256)) (IntKind.u64.wrap (Int.tdiv x1 10)) x2 (wrap64 (x8 - 1)) ((Int.tmod x1 10) != 0) (wrap64 (x10 + 1))) else (none)) else (none)))) else (if x9 = true then (if 0 ≤ (wrap64 (x8 - 1)) then (if (wrap64 (x8 - 1)) < (x0.length : Int) then (some (wrap64 (x8 - 1), x1, (x0.set ((wrap64 (x8 - 1)) : Int).toNat 46))) else (none)) else (none)) else (some (x8, x1, x0)))
def time_fmtFrac.f (k : Nat) (l0 : List Int) (a1 : Int) (a2 : Int) : Option (Int × Int × List Int) := time_fmtFrac.l0 k l0 a1 a2 (l0.length : Int) false 0
theorem time_fmtFrac.mono_l : ∀ k, (∀ y0 y1 y2 y3 y4 y5, LeO (time_fmtFrac.l0 k y0 y1 y2 y3 y4 y5) (time_fmtFrac.l0 (k + 1) y0 y1 y2 y3 y4 y5))
  | 0 => fun _ _ _ _ _ _ r h => by simp [time_fmtFrac.l0] at h
  | k + 1 => by
    have ih0 := time_fmtFrac.mono_l k
    · intro y0 y1 y2 y3 y4 y5
      unfold time_fmtFrac.l0
      repeat' first
      | (with_reducible exact ih0 _ _ _ _ _ _)
      | (with_reducible exact LeO.refl _)
      | (with_reducible exact LeO.none _)
      | (with_reducible refine LeO.ite ?_ ?_)
      | (with_reducible refine LeO.bind ?_ (fun _ => ?_))
      | exact ih0 _ _ _ _ _ _
      | exact LeO.none _
      | refine LeO.ite ?_ ?_
      | refine LeO.bind ?_ (fun _ => ?_)
theorem time_fmtFrac.mono : ∀ a0 a1 a2 k, LeO (time_fmtFrac.f k a0 a1 a2) (time_fmtFrac.f (k + 1) a0 a1 a2) := by
  intro a0 a1 a2 k
  have ih0 := time_fmtFrac.mono_l k
  unfold time_fmtFrac.f
  repeat' first
      | (with_reducible exact ih0 _ _ _ _ _ _)
      | (with_reducible exact LeO.refl _)
      | (with_reducible exact LeO.none _)
      | (with_reducible refine LeO.ite ?_ ?_)
      | (with_reducible refine LeO.bind ?_ (fun _ => ?_))
      | exact ih0 _ _ _ _ _ _
      | exact LeO.none _
      | refine LeO.ite ?_ ?_
      | refine LeO.bind ?_ (fun _ => ?_)
set_option maxHeartbeats 8000000 in
set_option maxRecDepth 100000 in
theorem time_fmtFrac.calls (k : Nat) (P0_ : Nat → Prop) (u9000_ : Value) (l0 : List Int) (a1 : Int) (a2 : Int) (r1 : Int) (r2 : Int) (r3 : List Int) (w0 w : World) (hB : Below w0.heap.size w0 w) (ho0 : Kd.R (Kd.int .u8) 5 w w0.heap.size P0_ u9000_ l0) (h : time_fmtFrac.f k l0 a1 a2 = some (r1, r2, r3)) :
    Calls Tryd.prog 47 #[u9000_, .int .u64 a1, .int .i64 a2] w fun e w' => e = .returned (.tuple #[.int .i64 r1, .int .u64 r2]) ∧ Kd.R (Kd.int .u8) 5 w' w0.heap.size (fun k_ => (P0_ k_ ∨ w.heap.size ≤ k_)) u9000_ r3 ∧ Below w0.heap.size w0 w' ∧ Kept w w' (fun k_ => P0_ k_) := by
  have HO0 := Aside0.mk (show Kd.R (Kd.int .u8) 5 w w0.heap.size (fun k_ => (P0_ k_ ∨ w.heap.size ≤ k_)) u9000_ l0 from Kd.R_mono ho0 (fun k_ hk => (.inl hk)))
  have HK := Aside0.mk (Kept.refl w (fun k_ => P0_ k_))
  have HW0 := Aside0.mk hB.size
  have HB := Aside0.mk hB
  clear hB
  have H : (time_fmtFrac.l0 k l0 a1 a2 (l0.length : Int) false 0) = some (r1, r2, r3) := h
  clear h
  have H' := Aside0.mk H
  clear H
  obtain ⟨Ao4, co4, eo4⟩ := Kd.R_slice HO0.out
  subst eo4
  go_enter Tryd.func47, Tryd.ntmps47
  go_wp2
  go_loopg [1, 8, 9, 10] k (fun kq v1 v8 v9 v10 w' => ∃ (x0_1 : List Int) (x1_1 : Int) (x8_1 : Int) (x9_1 : Bool) (x10_1 : Int), v1 = .int .u64 x1_1 ∧ v8 = .int .i64 x8_1 ∧ v9 = .bool x9_1 ∧ v10 = .int .i64 x10_1 ∧ Aside0 (time_fmtFrac.l0 kq x0_1 x1_1 a2 x8_1 x9_1 x10_1 = some (r1, r2, r3)) ∧ Aside0 (kq ≤ k) ∧ Aside0 (Kd.R (Kd.int .u8) 5 w' w0.heap.size (fun k_ => (P0_ k_ ∨ w.heap.size ≤ k_)) (.slice Ao4 l0.length co4) x0_1) ∧ Aside0 (Kept w w' (fun k_ => P0_ k_)) ∧ Aside0 (Below w0.heap.size w0 w'))
  case atStart => exact ⟨(l0), (a1), ((l0.length : Int)), (false), (0), (by first | rfl | (simp; done) | (simp [*]; done)), (by first | rfl | (simp; done) | (simp [*]; done)), (by first | rfl | (simp; done) | (simp [*]; done)), (by first | rfl | (simp; done) | (simp [*]; done)), H', ⟨Nat.le_refl _⟩, ⟨by (with_reducible repeat (first | apply Kd.R_alloc | apply Kd.R_drewN | apply Kd.R_drew)); exact HO0.out⟩, ⟨by repeat (first | (with_reducible first | exact HK.out | apply Kept.alloc | apply Kept.drewN | apply Kept.drew) | exact HK.out)⟩, ⟨by repeat (first | (with_reducible first | exact HB.out | apply below_alloc | apply pw_below_drewN | apply below_drew1) | exact HB.out)⟩⟩
  case round =>
    clear H'
    try clear p2
    try clear c4
    obtain ⟨x0_1, x1_1, x8_1, x9_1, x10_1, rfl, rfl, rfl, rfl, HA, HK1, HO_0, HK, HB⟩ := hrel
    have hl0_1 := (Kd.R_reads' HO_0.out).1
    rw [hl0_1] at HO_0
    (try simp only [hl0_1])
    cases gk with
    | zero => exact absurd HA.out (by simp [time_fmtFrac.l0])
    | succ k1 =>
      have H := HA.out
      clear HA
      simp only [time_fmtFrac.l0] at H
      by_cases c5 : x10_1 < a2
      · rw [if_pos c5] at H
        have c5b0 : decide (x10_1 < a2) = true := decide_eq_true c5
        clear c5
        by_cases c6 : x9_1 = true
        · subst c6
          have H1 : (if 0 ≤ (wrap64 (x8_1 - 1)) then (if (wrap64 (x8_1 - 1)) < (x0_1.length : Int) then (time_fmtFrac.l0 k1 (x0_1.set ((wrap64 (x8_1 - 1)) : Int).toNat ((((Int.tmod x1_1 10) % 256) + 48) % 256)) (IntKind.u64.wrap (Int.tdiv x1_1 10)) a2 (wrap64 (x8_1 - 1)) true (wrap64 (x10_1 + 1))) else (none)) else (none)) = some (r1, r2, r3) := by rw [if_pos rfl] at H; exact H
          clear H
          have H := H1
          clear H1
          obtain ⟨ji7, hji7⟩ : ∃ j_ : Int, (wrap64 (x8_1 - 1)) = j_ := ⟨_, rfl⟩
          replace H : (if 0 ≤ (ji7) then (if (ji7) < (x0_1.length : Int) then (time_fmtFrac.l0 k1 (x0_1.set ((ji7) : Int).toNat ((((Int.tmod x1_1 10) % 256) + 48) % 256)) (IntKind.u64.wrap (Int.tdiv x1_1 10)) a2 ji7 true (wrap64 (x10_1 + 1))) else (none)) else (none)) = some (r1, r2, r3) := by first | (rw [hji7] at H; exact H) | (simp only [hji7] at H ⊢; exact H)
          have hji7w : (IntKind.i64.wrap (x8_1 - 1)) = ji7 := (i64_w _).trans hji7
          by_cases c8 : 0 ≤ (ji7)
          · rw [if_pos c8] at H
            have c8b0 : decide (0 ≤ (ji7)) = true := decide_eq_true c8
            clear c8
            by_cases c9 : (ji7) < (x0_1.length : Int)
            · rw [if_pos c9] at H
              have c9b0 : decide ((ji7) < (x0_1.length : Int)) = true := decide_eq_true c9
              clear c9
              obtain ⟨y103, hy103⟩ : ∃ y_ : List Int, y_ = (x0_1.set ((ji7) : Int).toNat ((((Int.tmod x1_1 10) % 256) + 48) % 256)) := ⟨_, rfl⟩
              replace H : (time_fmtFrac.l0 k1 y103 (IntKind.u64.wrap (Int.tdiv x1_1 10)) a2 ji7 true (wrap64 (x10_1 + 1))) = some (r1, r2, r3) := by first | (rw [hy103]; with_reducible exact H) | (have H2_ := (Option.bind_some _ _).symm.trans H; rw [hy103]; with_reducible exact H2_) | (have H2_ := (Option.bind_some _ _).symm.trans H; with_reducible exact H2_) | with_reducible exact H | (rw [hy103]; exact H) | exact H
              have Ny103 := Aside0.mk hy103
              clear hy103
              have H' := Aside0.mk H
              clear H
              have p10 : 0 ≤ ((ji7) : Int) := of_decide_eq_true (by first | (with_reducible assumption) | assumption)
              have q10 : ((ji7) : Int) < ((x0_1.length : Int) : Int) := of_decide_eq_true (by first | (with_reducible assumption) | assumption)
              obtain ⟨go10, co10, eo10, gb10, gl10, cl10, HG10⟩ := Kd.R_form HO_0.out (by omega)
              (first | cases eo10 | (injection eo10 with ea_ en_ ec_; (first | subst ea_ | (injection ea_ with ea_; subst ea_)); subst ec_; clear en_))
              have GB10 := Aside0.mk gb10
              have GG10 := Aside0.mk HG10
              clear gb10 gl10 HG10
              have HMgo10 := Aside0.mk (show (P0_ go10 ∨ w.heap.size ≤ go10) from (HO_0.out.1 _ rfl))
              obtain ⟨hx10_0, hf10_0⟩ := Kd.R_celln 0 HO_0.out ((ji7) : Int) p10 q10
              replace p10 := eq_true p10
              replace q10 := eq_true q10
              have HP11 := Kd.R_putg HO_0.out ((ji7) : Int) ((((Int.tmod x1_1 10) % 256) + 48) % 256)
              go_wp2_with (first | ((with_reducible refine gate_store (t := 5) (p := 34) rfl ?_); refine store_event (t := 5) (p := 34) (v := ?vo_w12) (w1 := (wr.setCell ⟨go10, ((ji7) : Int).toNat, none⟩ (.int .u8 ((((Int.tmod x1_1 10) % 256) + 48) % 256)))) ?hg ?ho ?hn ?hr ?_; (case ho => rfl); (case hg => rfl); (case hn => rfl); (case hr => first | (go_simp; done) | (go_simp; rfl)); intro w12 hw; have hg : wr.grownBy w12 (some go10) := (by rw [hw]; exact HP11.2); have hp_ : Kd.R (Kd.int .u8) 5 w12 w0.heap.size (fun k_ => (P0_ k_ ∨ w.heap.size ≤ k_)) (.slice (some ⟨go10, 0, none⟩) x0_1.length co4) y103 := (by rw [hw, Ny103.out]; exact HP11.1); clear HP11; have n0_ := Aside0.mk (hp_); have n1_ := Aside0.mk ((by rw [hw]; exact below_set (HB.out) GB10.out : Below w0.heap.size w0 w12)); have n2_ := Aside0.mk (Kept.of_grown (S := (fun k_ => P0_ k_)) hg (by repeat (first | (with_reducible first | exact HK.out | apply Kept.alloc | apply Kept.drewN | apply Kept.drew) | exact HK.out)) (fun k_ e_ => (HO_0.out.1 k_ e_))); clear HO_0; clear HB; clear HK; have HO_0 := n0_; have HB := n1_; have HK := n2_; clear n0_ n1_ n2_; clear hg hw hp_))
              (try simp only [← hl0_1])
              go_roundg k1
              case measure => have := HK1.out; omega
              case rel => exact ⟨(y103), (IntKind.u64.wrap (Int.tdiv x1_1 10)), (ji7), (true), (wrap64 (x10_1 + 1)), (by first | rfl | (simp; done) | (simp [*]; done)), (by first | rfl | (simp; done) | (simp only [← hji7] <;> (first | rfl | simp)) | (simp [*]; done)), (by first | rfl | (simp; done) | (simp [*]; done)), (by first | rfl | (simp; done) | (simp [*]; done)), H', ⟨by have := HK1.out; omega⟩, ⟨by (try simp only [hl0_1]); (with_reducible repeat (first | apply Kd.R_alloc | apply Kd.R_drewN | apply Kd.R_drew)); exact HO_0.out⟩, ⟨by repeat (first | (with_reducible first | exact HK.out | apply Kept.alloc | apply Kept.drewN | apply Kept.drew) | exact HK.out)⟩, ⟨by repeat (first | (with_reducible first | exact HB.out | apply below_alloc | apply pw_below_drewN | apply below_drew1) | exact HB.out)⟩⟩
            · rw [if_neg c9] at H
              exact absurd H (by simp)
          · rw [if_neg c8] at H
            exact absurd H (by simp)
        · replace c6 := Bool.eq_false_iff.mpr c6
          subst c6
          have H1 : (if (Int.tmod x1_1 10) = 0 then (time_fmtFrac.l0 k1 x0_1 (IntKind.u64.wrap (Int.tdiv x1_1 10)) a2 x8_1 ((Int.tmod x1_1 10) != 0) (wrap64 (x10_1 + 1))) else (if 0 ≤ (wrap64 (x8_1 - 1)) then (if (wrap64 (x8_1 - 1)) < (x0_1.length : Int) then (time_fmtFrac.l0 k1 (x0_1.set ((wrap64 (x8_1 - 1)) : Int).toNat ((((Int.tmod x1_1 10) % 256) + 48) % 256)) (IntKind.u64.wrap (Int.tdiv x1_1 10)) a2 (wrap64 (x8_1 - 1)) ((Int.tmod x1_1 10) != 0) (wrap64 (x10_1 + 1))) else (none)) else (none))) = some (r1, r2, r3) := by rw [if_neg (show ¬ (false = true) by decide)] at H; exact H
          clear H
          have H := H1
          clear H1
          by_cases c13 : (Int.tmod x1_1 10) = 0
          · rw [if_pos c13] at H
            have c13b0 : ((Int.tmod x1_1 10) == 0) = true := beq_iff_eq.mpr c13
            have c13b1 : ((Int.tmod x1_1 10) != 0) = false := bne_eq_false_iff_eq.mpr c13
            clear c13
            have H' := Aside0.mk H
            clear H
            go_wp2
            (try simp only [← hl0_1])
            go_roundg k1
            case measure => have := HK1.out; omega
            case rel => exact ⟨(x0_1), (IntKind.u64.wrap (Int.tdiv x1_1 10)), (x8_1), (((Int.tmod x1_1 10) != 0)), (wrap64 (x10_1 + 1)), (by first | rfl | (simp; done) | (simp [*]; done)), (by first | rfl | (simp; done) | (simp [*]; done)), (by first | rfl | (simp; done) | (simp [*]; done)), (by first | rfl | (simp; done) | (simp [*]; done)), H', ⟨by have := HK1.out; omega⟩, ⟨by (try simp only [hl0_1]); (with_reducible repeat (first | apply Kd.R_alloc | apply Kd.R_drewN | apply Kd.R_drew)); exact HO_0.out⟩, ⟨by repeat (first | (with_reducible first | exact HK.out | apply Kept.alloc | apply Kept.drewN | apply Kept.drew) | exact HK.out)⟩, ⟨by repeat (first | (with_reducible first | exact HB.out | apply below_alloc | apply pw_below_drewN | apply below_drew1) | exact HB.out)⟩⟩
          · rw [if_neg c13] at H
            have c13b0 : ((Int.tmod x1_1 10) == 0) = false := beq_eq_false_iff_ne.mpr c13
            have c13b1 : ((Int.tmod x1_1 10) != 0) = true := bne_iff_ne.mpr c13
            obtain ⟨ji14, hji14⟩ : ∃ j_ : Int, (wrap64 (x8_1 - 1)) = j_ := ⟨_, rfl⟩
            replace H : (if 0 ≤ (ji14) then (if (ji14) < (x0_1.length : Int) then (time_fmtFrac.l0 k1 (x0_1.set ((ji14) : Int).toNat ((((Int.tmod x1_1 10) % 256) + 48) % 256)) (IntKind.u64.wrap (Int.tdiv x1_1 10)) a2 ji14 ((Int.tmod x1_1 10) != 0) (wrap64 (x10_1 + 1))) else (none)) else (none)) = some (r1, r2, r3) := by first | (rw [hji14] at H; exact H) | (simp only [hji14] at H ⊢; exact H)
            have hji14w : (IntKind.i64.wrap (x8_1 - 1)) = ji14 := (i64_w _).trans hji14
            by_cases c15 : 0 ≤ (ji14)
            · rw [if_pos c15] at H
              have c15b0 : decide (0 ≤ (ji14)) = true := decide_eq_true c15
              clear c15
              by_cases c16 : (ji14) < (x0_1.length : Int)
              · rw [if_pos c16] at H
                have c16b0 : decide ((ji14) < (x0_1.length : Int)) = true := decide_eq_true c16
                clear c16
                obtain ⟨y104, hy104⟩ : ∃ y_ : List Int, y_ = (x0_1.set ((ji14) : Int).toNat ((((Int.tmod x1_1 10) % 256) + 48) % 256)) := ⟨_, rfl⟩
                replace H : (time_fmtFrac.l0 k1 y104 (IntKind.u64.wrap (Int.tdiv x1_1 10)) a2 ji14 ((Int.tmod x1_1 10) != 0) (wrap64 (x10_1 + 1))) = some (r1, r2, r3) := by first | (rw [hy104]; with_reducible exact H) | (have H2_ := (Option.bind_some _ _).symm.trans H; rw [hy104]; with_reducible exact H2_) | (have H2_ := (Option.bind_some _ _).symm.trans H; with_reducible exact H2_) | with_reducible exact H | (rw [hy104]; exact H) | exact H
                have Ny104 := Aside0.mk hy104
                clear hy104
                have H' := Aside0.mk H
                clear H
                have p17 : 0 ≤ ((ji14) : Int) := of_decide_eq_true (by first | (with_reducible assumption) | assumption)
                have q17 : ((ji14) : Int) < ((x0_1.length : Int) : Int) := of_decide_eq_true (by first | (with_reducible assumption) | assumption)
                obtain ⟨go17, co17, eo17, gb17, gl17, cl17, HG17⟩ := Kd.R_form HO_0.out (by omega)
                (first | cases eo17 | (injection eo17 with ea_ en_ ec_; (first | subst ea_ | (injection ea_ with ea_; subst ea_)); subst ec_; clear en_))
                have GB17 := Aside0.mk gb17
                have GG17 := Aside0.mk HG17
                clear gb17 gl17 HG17
                have HMgo17 := Aside0.mk (show (P0_ go17 ∨ w.heap.size ≤ go17) from (HO_0.out.1 _ rfl))
                obtain ⟨hx17_0, hf17_0⟩ := Kd.R_celln 0 HO_0.out ((ji14) : Int) p17 q17
                replace p17 := eq_true p17
                replace q17 := eq_true q17
                have HP18 := Kd.R_putg HO_0.out ((ji14) : Int) ((((Int.tmod x1_1 10) % 256) + 48) % 256)
                go_wp2_with (first | ((with_reducible refine gate_store (t := 5) (p := 34) rfl ?_); refine store_event (t := 5) (p := 34) (v := ?vo_w19) (w1 := (wr.setCell ⟨go17, ((ji14) : Int).toNat, none⟩ (.int .u8 ((((Int.tmod x1_1 10) % 256) + 48) % 256)))) ?hg ?ho ?hn ?hr ?_; (case ho => rfl); (case hg => rfl); (case hn => rfl); (case hr => first | (go_simp; done) | (go_simp; rfl)); intro w19 hw; have hg : wr.grownBy w19 (some go17) := (by rw [hw]; exact HP18.2); have hp_ : Kd.R (Kd.int .u8) 5 w19 w0.heap.size (fun k_ => (P0_ k_ ∨ w.heap.size ≤ k_)) (.slice (some ⟨go17, 0, none⟩) x0_1.length co4) y104 := (by rw [hw, Ny104.out]; exact HP18.1); clear HP18; have n0_ := Aside0.mk (hp_); have n1_ := Aside0.mk ((by rw [hw]; exact below_set (HB.out) GB17.out : Below w0.heap.size w0 w19)); have n2_ := Aside0.mk (Kept.of_grown (S := (fun k_ => P0_ k_)) hg (by repeat (first | (with_reducible first | exact HK.out | apply Kept.alloc | apply Kept.drewN | apply Kept.drew) | exact HK.out)) (fun k_ e_ => (HO_0.out.1 k_ e_))); clear HO_0; clear HB; clear HK; have HO_0 := n0_; have HB := n1_; have HK := n2_; clear n0_ n1_ n2_; clear hg hw hp_))
                (try simp only [← hl0_1])
                go_roundg k1
                case measure => have := HK1.out; omega
                case rel => exact ⟨(y104), (IntKind.u64.wrap (Int.tdiv x1_1 10)), (ji14), (((Int.tmod x1_1 10) != 0)), (wrap64 (x10_1 + 1)), (by first | rfl | (simp; done) | (simp [*]; done)), (by first | rfl | (simp; done) | (simp only [← hji14] <;> (first | rfl | simp)) | (simp [*]; done)), (by first | rfl | (simp; done) | (simp [*]; done)), (by first | rfl | (simp; done) | (simp [*]; done)), H', ⟨by have := HK1.out; omega⟩, ⟨by (try simp only [hl0_1]); (with_reducible repeat (first | apply Kd.R_alloc | apply Kd.R_drewN | apply Kd.R_drew)); exact HO_0.out⟩, ⟨by repeat (first | (with_reducible first | exact HK.out | apply Kept.alloc | apply Kept.drewN | apply Kept.drew) | exact HK.out)⟩, ⟨by repeat (first | (with_reducible first | exact HB.out | apply below_alloc | apply pw_below_drewN | apply below_drew1) | exact HB.out)⟩⟩
              · rw [if_neg c16] at H
                exact absurd H (by simp)
            · rw [if_neg c15] at H
              exact absurd H (by simp)
      · rw [if_neg c5] at H
        have c5b0 : decide (x10_1 < a2) = false := decide_eq_false c5
        clear c5
        by_cases c20 : x9_1 = true
        · subst c20
          have H1 : (if 0 ≤ (wrap64 (x8_1 - 1)) then (if (wrap64 (x8_1 - 1)) < (x0_1.length : Int) then (some (wrap64 (x8_1 - 1), x1_1, (x0_1.set ((wrap64 (x8_1 - 1)) : Int).toNat 46))) else (none)) else (none)) = some (r1, r2, r3) := by rw [if_pos rfl] at H; exact H
          clear H
          have H := H1
          clear H1
          obtain ⟨ji21, hji21⟩ : ∃ j_ : Int, (wrap64 (x8_1 - 1)) = j_ := ⟨_, rfl⟩
          replace H : (if 0 ≤ (ji21) then (if (ji21) < (x0_1.length : Int) then (some (ji21, x1_1, (x0_1.set ((ji21) : Int).toNat 46))) else (none)) else (none)) = some (r1, r2, r3) := by first | (rw [hji21] at H; exact H) | (simp only [hji21] at H ⊢; exact H)
          have hji21w : (IntKind.i64.wrap (x8_1 - 1)) = ji21 := (i64_w _).trans hji21
          by_cases c22 : 0 ≤ (ji21)
          · rw [if_pos c22] at H
            have c22b0 : decide (0 ≤ (ji21)) = true := decide_eq_true c22
            clear c22
            by_cases c23 : (ji21) < (x0_1.length : Int)
            · rw [if_pos c23] at H
              have c23b0 : decide ((ji21) < (x0_1.length : Int)) = true := decide_eq_true c23
              clear c23
              obtain ⟨y105, hy105⟩ : ∃ y_ : List Int, y_ = (x0_1.set ((ji21) : Int).toNat 46) := ⟨_, rfl⟩
              replace H : (some (ji21, x1_1, y105)) = some (r1, r2, r3) := by first | (rw [hy105]; with_reducible exact H) | (have H2_ := (Option.bind_some _ _).symm.trans H; rw [hy105]; with_reducible exact H2_) | (have H2_ := (Option.bind_some _ _).symm.trans H; with_reducible exact H2_) | with_reducible exact H | (rw [hy105]; exact H) | exact H
              have Ny105 := Aside0.mk hy105
              clear hy105
              simp only [Option.some.injEq, Prod.mk.injEq] at H
              obtain ⟨rfl, rfl, rfl⟩ := H
              have p24 : 0 ≤ ((ji21) : Int) := of_decide_eq_true (by first | (with_reducible assumption) | assumption)
              have q24 : ((ji21) : Int) < ((x0_1.length : Int) : Int) := of_decide_eq_true (by first | (with_reducible assumption) | assumption)
              obtain ⟨go24, co24, eo24, gb24, gl24, cl24, HG24⟩ := Kd.R_form HO_0.out (by omega)
              (first | cases eo24 | (injection eo24 with ea_ en_ ec_; (first | subst ea_ | (injection ea_ with ea_; subst ea_)); subst ec_; clear en_))
              have GB24 := Aside0.mk gb24
              have GG24 := Aside0.mk HG24
              clear gb24 gl24 HG24
              have HMgo24 := Aside0.mk (show (P0_ go24 ∨ w.heap.size ≤ go24) from (HO_0.out.1 _ rfl))
              obtain ⟨hx24_0, hf24_0⟩ := Kd.R_celln 0 HO_0.out ((ji21) : Int) p24 q24
              replace p24 := eq_true p24
              replace q24 := eq_true q24
              have HP25 := Kd.R_putg HO_0.out ((ji21) : Int) 46
              go_wp2_with (first | ((with_reducible refine gate_store (t := 5) (p := 42) rfl ?_); refine store_event (t := 5) (p := 42) (v := ?vo_w26) (w1 := (wr.setCell ⟨go24, ((ji21) : Int).toNat, none⟩ (.int .u8 46))) ?hg ?ho ?hn ?hr ?_; (case ho => rfl); (case hg => rfl); (case hn => rfl); (case hr => first | (go_simp; done) | (go_simp; rfl)); intro w26 hw; have hg : wr.grownBy w26 (some go24) := (by rw [hw]; exact HP25.2); have hp_ : Kd.R (Kd.int .u8) 5 w26 w0.heap.size (fun k_ => (P0_ k_ ∨ w.heap.size ≤ k_)) (.slice (some ⟨go24, 0, none⟩) x0_1.length co4) y105 := (by rw [hw, Ny105.out]; exact HP25.1); clear HP25; have n0_ := Aside0.mk (hp_); have n1_ := Aside0.mk ((by rw [hw]; exact below_set (HB.out) GB24.out : Below w0.heap.size w0 w26)); have n2_ := Aside0.mk (Kept.of_grown (S := (fun k_ => P0_ k_)) hg (by repeat (first | (with_reducible first | exact HK.out | apply Kept.alloc | apply Kept.drewN | apply Kept.drew) | exact HK.out)) (fun k_ e_ => (HO_0.out.1 k_ e_))); clear HO_0; clear HB; clear HK; have HO_0 := n0_; have HB := n1_; have HK := n2_; clear n0_ n1_ n2_; clear hg hw hp_))
              go_ret2
              exact ⟨by first | rfl | (simp [errW_none, errW_some] <;> rfl) | (simp only [← hji21]; first | rfl | (simp [errW_none, errW_some] <;> rfl)) | (simp [*, errW_none, errW_some] <;> rfl), (by first | exact (by (with_reducible repeat (first | apply Kd.R_alloc | apply Kd.R_drewN | apply Kd.R_drew)); exact HO_0.out) | (simp only [hl0_1]; exact (by (with_reducible repeat (first | apply Kd.R_alloc | apply Kd.R_drewN | apply Kd.R_drew)); exact HO_0.out))), by repeat (first | (with_reducible first | exact HB.out | apply below_alloc | apply pw_below_drewN | apply below_drew1) | exact HB.out), by repeat (first | (with_reducible first | exact HK.out | apply Kept.alloc | apply Kept.drewN | apply Kept.drew) | exact HK.out)⟩
            · rw [if_neg c23] at H
              exact absurd H (by simp)
          · rw [if_neg c22] at H
            exact absurd H (by simp)
        · replace c20 := Bool.eq_false_iff.mpr c20
          subst c20
          have H1 : (some (x8_1, x1_1, x0_1)) = some (r1, r2, r3) := by rw [if_neg (show ¬ (false = true) by decide)] at H; exact H
          clear H
          have H := H1
          clear H1
          simp only [Option.some.injEq, Prod.mk.injEq] at H
          obtain ⟨rfl, rfl, rfl⟩ := H
          go_wp2
          go_ret2
          exact ⟨by first | rfl | (simp [errW_none, errW_some] <;> rfl) | (simp [*, errW_none, errW_some] <;> rfl), (by first | exact (by (with_reducible repeat (first | apply Kd.R_alloc | apply Kd.R_drewN | apply Kd.R_drew)); exact HO_0.out) | (simp only [hl0_1]; exact (by (with_reducible repeat (first | apply Kd.R_alloc | apply Kd.R_drewN | apply Kd.R_drew)); exact HO_0.out))), by repeat (first | (with_reducible first | exact HB.out | apply below_alloc | apply pw_below_drewN | apply below_drew1) | exact HB.out), by repeat (first | (with_reducible first | exact HK.out | apply Kept.alloc | apply Kept.drewN | apply Kept.drew) | exact HK.out)⟩

/-! ### time_fmtInt: function 48 -/
def time_fmtInt.l0 : Nat → List Int → Int → Int → Option (Int × List Int)
  | 0, _, _, _ => none
  | k + 1, x0, x1, x5 => if x1 > 0 then (if 0 ≤ (wrap64 (x5 - 1)) then (if (wrap64 (x5 - 1)) < (x0.length : Int) then (time_fmtInt.l0 k (x0.set ((wrap64 (x5 - 1)) : Int).toNat ((((Int.tmod x1 10) % 256) + 48) % 256)) (IntKind.u64.wrap (Int.tdiv x1 10)) (wrap64 (x5 - 1))) else (none)) else (none)) else (some (x5, x0))
def time_fmtInt.f (k : Nat) (l0 : List Int) (a1 : Int) : Option (Int × List Int) := if a1 = 0 then (if 0 ≤ (wrap64 ((l0.length : Int) - 1)) then (if (wrap64 ((l0.length : Int) - 1)) < (l0.length : Int) then (some (wrap64 ((l0.length : Int) - 1), (l0.set ((wrap64 ((l0.length : Int) - 1)) : Int).toNat 48))) else (none)) else (none)) else (time_fmtInt.l0 k l0 a1 (l0.length : Int))
theorem time_fmtInt.mono_l : ∀ k, (∀ y0 y1 y2, LeO (time_fmtInt.l0 k y0 y1 y2) (time_fmtInt.l0 (k + 1) y0 y1 y2))
  | 0 => fun _ _ _ r h => by simp [time_fmtInt.l0] at h
  | k + 1 => by
    have ih0 := time_fmtInt.mono_l k
    · intro y0 y1 y2
      unfold time_fmtInt.l0
      repeat' first
      | (with_reducible exact ih0 _ _ _)
      | (with_reducible exact LeO.refl _)
      | (with_reducible exact LeO.none _)
      | (with_reducible refine LeO.ite ?_ ?_)
      | (with_reducible refine LeO.bind ?_ (fun _ => ?_))
      | exact ih0 _ _ _
      | exact LeO.none _
      | refine LeO.ite ?_ ?_
      | refine LeO.bind ?_ (fun _ => ?_)
theorem time_fmtInt.mono : ∀ a0 a1 k, LeO (time_fmtInt.f k a0 a1) (time_fmtInt.f (k + 1) a0 a1) := by
  intro a0 a1 k
  have ih0 := time_fmtInt.mono_l k
  unfold time_fmtInt.f
  repeat' first
      | (with_reducible exact ih0 _ _ _)
      | (with_reducible exact LeO.refl _)
      | (with_reducible exact LeO.none _)
      | (with_reducible refine LeO.ite ?_ ?_)
      | (with_reducible refine LeO.bind ?_ (fun _ => ?_))
      | exact ih0 _ _ _
      | exact LeO.none _
      | refine LeO.ite ?_ ?_
      | refine LeO.bind ?_ (fun _ => ?_)
set_option maxHeartbeats 8000000 in
set_option maxRecDepth 100000 in
theorem time_fmtInt.calls (k : Nat) (P0_ : Nat → Prop) (u9000_ : Value) (l0 : List Int) (a1 : Int) (r1 : Int) (r2 : List Int) (w0 w : World) (hB : Below w0.heap.size w0 w) (ho0 : Kd.R (Kd.int .u8) 5 w w0.heap.size P0_ u9000_ l0) (h : time_fmtInt.f k l0 a1 = some (r1, r2)) :
    Calls Tryd.prog 48 #[u9000_, .int .u64 a1] w fun e w' => e = .returned (.int .i64 r1) ∧ Kd.R (Kd.int .u8) 5 w' w0.heap.size (fun k_ => (P0_ k_ ∨ w.heap.size ≤ k_)) u9000_ r2 ∧ Below w0.heap.size w0 w' ∧ Kept w w' (fun k_ => P0_ k_) := by
  have HO0 := Aside0.mk (show Kd.R (Kd.int .u8) 5 w w0.heap.size (fun k_ => (P0_ k_ ∨ w.heap.size ≤ k_)) u9000_ l0 from Kd.R_mono ho0 (fun k_ hk => (.inl hk)))
  have HK := Aside0.mk (Kept.refl w (fun k_ => P0_ k_))
  have HW0 := Aside0.mk hB.size
  have HB := Aside0.mk hB
  clear hB
  have H : (if a1 = 0 then (if 0 ≤ (wrap64 ((l0.length : Int) - 1)) then (if (wrap64 ((l0.length : Int) - 1)) < (l0.length : Int) then (some (wrap64 ((l0.length : Int) - 1), (l0.set ((wrap64 ((l0.length : Int) - 1)) : Int).toNat 48))) else (none)) else (none)) else (time_fmtInt.l0 k l0 a1 (l0.length : Int))) = some (r1, r2) := h
  clear h
  by_cases c3 : a1 = 0
  · rw [if_pos c3] at H
    have c3b0 : (a1 == 0) = true := beq_iff_eq.mpr c3
    have c3b1 : (a1 != 0) = false := bne_eq_false_iff_eq.mpr c3
    clear c3
    obtain ⟨ji4, hji4⟩ : ∃ j_ : Int, (wrap64 ((l0.length : Int) - 1)) = j_ := ⟨_, rfl⟩
    replace H : (if 0 ≤ (ji4) then (if (ji4) < (l0.length : Int) then (some (ji4, (l0.set ((ji4) : Int).toNat 48))) else (none)) else (none)) = some (r1, r2) := by first | (rw [hji4] at H; exact H) | (simp only [hji4] at H ⊢; exact H)
    have hji4w : (IntKind.i64.wrap ((l0.length : Int) - 1)) = ji4 := (i64_w _).trans hji4
    by_cases c5 : 0 ≤ (ji4)
    · rw [if_pos c5] at H
      have c5b0 : decide (0 ≤ (ji4)) = true := decide_eq_true c5
      clear c5
      by_cases c6 : (ji4) < (l0.length : Int)
      · rw [if_pos c6] at H
        have c6b0 : decide ((ji4) < (l0.length : Int)) = true := decide_eq_true c6
        clear c6
        obtain ⟨y106, hy106⟩ : ∃ y_ : List Int, y_ = (l0.set ((ji4) : Int).toNat 48) := ⟨_, rfl⟩
        replace H : (some (ji4, y106)) = some (r1, r2) := by first | (rw [hy106]; with_reducible exact H) | (have H2_ := (Option.bind_some _ _).symm.trans H; rw [hy106]; with_reducible exact H2_) | (have H2_ := (Option.bind_some _ _).symm.trans H; with_reducible exact H2_) | with_reducible exact H | (rw [hy106]; exact H) | exact H
        have Ny106 := Aside0.mk hy106
        clear hy106
        simp only [Option.some.injEq, Prod.mk.injEq] at H
        obtain ⟨rfl, rfl⟩ := H
        obtain ⟨Ao8, co8, eo8⟩ := Kd.R_slice HO0.out
        subst eo8
        have p7 : 0 ≤ ((ji4) : Int) := of_decide_eq_true (by first | (with_reducible assumption) | assumption)
        have q7 : ((ji4) : Int) < ((l0.length : Int) : Int) := of_decide_eq_true (by first | (with_reducible assumption) | assumption)
        obtain ⟨go7, co7, eo7, gb7, gl7, cl7, HG7⟩ := Kd.R_form HO0.out (by omega)
        (first | cases eo7 | (injection eo7 with ea_ en_ ec_; (first | subst ea_ | (injection ea_ with ea_; subst ea_)); subst ec_; clear en_))
        have GB7 := Aside0.mk gb7
        have GG7 := Aside0.mk HG7
        clear gb7 gl7 HG7
        have HMgo7 := Aside0.mk (show (P0_ go7 ∨ w.heap.size ≤ go7) from (HO0.out.1 _ rfl))
        obtain ⟨hx7_0, hf7_0⟩ := Kd.R_celln 0 HO0.out ((ji4) : Int) p7 q7
        replace p7 := eq_true p7
        replace q7 := eq_true q7
        have HP9 := Kd.R_putg HO0.out ((ji4) : Int) 48
        go_enter Tryd.func48, Tryd.ntmps48
        go_wp2_with (first | ((with_reducible refine gate_store (t := 5) (p := 14) rfl ?_); refine store_event (t := 5) (p := 14) (v := ?vo_w10) (w1 := (w.setCell ⟨go7, ((ji4) : Int).toNat, none⟩ (.int .u8 48))) ?hg ?ho ?hn ?hr ?_; (case ho => rfl); (case hg => rfl); (case hn => rfl); (case hr => first | (go_simp; done) | (go_simp; rfl)); intro w10 hw; have hg : w.grownBy w10 (some go7) := (by rw [hw]; exact HP9.2); have hp_ : Kd.R (Kd.int .u8) 5 w10 w0.heap.size (fun k_ => (P0_ k_ ∨ w.heap.size ≤ k_)) (.slice (some ⟨go7, 0, none⟩) l0.length co8) y106 := (by rw [hw, Ny106.out]; exact HP9.1); clear HP9; have n0_ := Aside0.mk (hp_); have n1_ := Aside0.mk ((by rw [hw]; exact below_set (HB.out) GB7.out : Below w0.heap.size w0 w10)); have n2_ := Aside0.mk (Kept.of_grown (S := (fun k_ => P0_ k_)) hg (by repeat (first | (with_reducible first | exact HK.out | apply Kept.alloc | apply Kept.drewN | apply Kept.drew) | exact HK.out)) (fun k_ e_ => (HO0.out.1 k_ e_))); clear HO0; clear HB; clear HK; have HO0 := n0_; have HB := n1_; have HK := n2_; clear n0_ n1_ n2_; clear hg hw hp_))
        go_ret
        exact ⟨by first | rfl | (simp [errW_none, errW_some] <;> rfl) | (simp only [← hji4]; first | rfl | (simp [errW_none, errW_some] <;> rfl)) | (simp [*, errW_none, errW_some] <;> rfl), by (with_reducible repeat (first | apply Kd.R_alloc | apply Kd.R_drewN | apply Kd.R_drew)); exact HO0.out, by repeat (first | (with_reducible first | exact HB.out | apply below_alloc | apply pw_below_drewN | apply below_drew1) | exact HB.out), by repeat (first | (with_reducible first | exact HK.out | apply Kept.alloc | apply Kept.drewN | apply Kept.drew) | exact HK.out)⟩
      · rw [if_neg c6] at H
        exact absurd H (by simp)
    · rw [if_neg c5] at H
      exact absurd H (by simp)
  · rw [if_neg c3] at H
    have c3b0 : (a1 == 0) = false := beq_eq_false_iff_ne.mpr c3
    have c3b1 : (a1 != 0) = true := bne_iff_ne.mpr c3
    have H' := Aside0.mk H
    clear H
    obtain ⟨Ao11, co11, eo11⟩ := Kd.R_slice HO0.out
    subst eo11
    go_enter Tryd.func48, Tryd.ntmps48
    go_wp2
    go_loopg [1, 5] k (fun kq v1 v5 w' => ∃ (x0_1 : List Int) (x1_1 : Int) (x5_1 : Int), v1 = .int .u64 x1_1 ∧ v5 = .int .i64 x5_1 ∧ Aside0 (time_fmtInt.l0 kq x0_1 x1_1 x5_1 = some (r1, r2)) ∧ Aside0 (kq ≤ k) ∧ Aside0 (Kd.R (Kd.int .u8) 5 w' w0.heap.size (fun k_ => (P0_ k_ ∨ w.heap.size ≤ k_)) (.slice Ao11 l0.length co11) x0_1) ∧ Aside0 (Kept w w' (fun k_ => P0_ k_)) ∧ Aside0 (Below w0.heap.size w0 w'))
    case atStart => exact ⟨(l0), (a1), ((l0.length : Int)), (by first | rfl | (simp; done) | (simp [*]; done)), (by first | rfl | (simp; done) | (simp [*]; done)), H', ⟨Nat.le_refl _⟩, ⟨by (with_reducible repeat (first | apply Kd.R_alloc | apply Kd.R_drewN | apply Kd.R_drew)); exact HO0.out⟩, ⟨by repeat (first | (with_reducible first | exact HK.out | apply Kept.alloc | apply Kept.drewN | apply Kept.drew) | exact HK.out)⟩, ⟨by repeat (first | (with_reducible first | exact HB.out | apply below_alloc | apply pw_below_drewN | apply below_drew1) | exact HB.out)⟩⟩
    case round =>
      clear H'
      try clear p2
      try clear c3
      try clear c3b0
      try clear c3b1
      try clear c4
      try clear c5
      try clear c5b0
      try clear c6
      try clear c6b0
      try clear p6
      try clear p7
      try clear q7
      try clear hx7
      try clear hf7
      try clear hx7_0
      try clear p7
      try clear q7
      obtain ⟨x0_1, x1_1, x5_1, rfl, rfl, HA, HK1, HO_0, HK, HB⟩ := hrel
      have hl0_1 := (Kd.R_reads' HO_0.out).1
      rw [hl0_1] at HO_0
      (try simp only [hl0_1])
      cases gk with
      | zero => exact absurd HA.out (by simp [time_fmtInt.l0])
      | succ k1 =>
        have H := HA.out
        clear HA
        simp only [time_fmtInt.l0] at H
        by_cases c12 : x1_1 > 0
        · rw [if_pos c12] at H
          have c12b0 : decide (0 < x1_1) = true := decide_eq_true c12
          clear c12
          obtain ⟨ji13, hji13⟩ : ∃ j_ : Int, (wrap64 (x5_1 - 1)) = j_ := ⟨_, rfl⟩
          replace H : (if 0 ≤ (ji13) then (if (ji13) < (x0_1.length : Int) then (time_fmtInt.l0 k1 (x0_1.set ((ji13) : Int).toNat ((((Int.tmod x1_1 10) % 256) + 48) % 256)) (IntKind.u64.wrap (Int.tdiv x1_1 10)) ji13) else (none)) else (none)) = some (r1, r2) := by first | (rw [hji13] at H; exact H) | (simp only [hji13] at H ⊢; exact H)
          have hji13w : (IntKind.i64.wrap (x5_1 - 1)) = ji13 := (i64_w _).trans hji13
          by_cases c14 : 0 ≤ (ji13)
          · rw [if_pos c14] at H
            have c14b0 : decide (0 ≤ (ji13)) = true := decide_eq_true c14
            clear c14
            by_cases c15 : (ji13) < (x0_1.length : Int)
            · rw [if_pos c15] at H
              have c15b0 : decide ((ji13) < (x0_1.length : Int)) = true := decide_eq_true c15
              clear c15
              obtain ⟨y107, hy107⟩ : ∃ y_ : List Int, y_ = (x0_1.set ((ji13) : Int).toNat ((((Int.tmod x1_1 10) % 256) + 48) % 256)) := ⟨_, rfl⟩
              replace H : (time_fmtInt.l0 k1 y107 (IntKind.u64.wrap (Int.tdiv x1_1 10)) ji13) = some (r1, r2) := by first | (rw [hy107]; with_reducible exact H) | (have H2_ := (Option.bind_some _ _).symm.trans H; rw [hy107]; with_reducible exact H2_) | (have H2_ := (Option.bind_some _ _).symm.trans H; with_reducible exact H2_) | with_reducible exact H | (rw [hy107]; exact H) | exact H
              have Ny107 := Aside0.mk hy107
              clear hy107
              have H' := Aside0.mk H
              clear H
              have p16 : 0 ≤ ((ji13) : Int) := of_decide_eq_true (by first | (with_reducible assumption) | assumption)
              have q16 : ((ji13) : Int) < ((x0_1.length : Int) : Int) := of_decide_eq_true (by first | (with_reducible assumption) | assumption)
              obtain ⟨go16, co16, eo16, gb16, gl16, cl16, HG16⟩ := Kd.R_form HO_0.out (by omega)
              (first | cases eo16 | (injection eo16 with ea_ en_ ec_; (first | subst ea_ | (injection ea_ with ea_; subst ea_)); subst ec_; clear en_))
              have GB16 := Aside0.mk gb16
              have GG16 := Aside0.mk HG16
              clear gb16 gl16 HG16
              have HMgo16 := Aside0.mk (show (P0_ go16 ∨ w.heap.size ≤ go16) from (HO_0.out.1 _ rfl))
              obtain ⟨hx16_0, hf16_0⟩ := Kd.R_celln 0 HO_0.out ((ji13) : Int) p16 q16
              replace p16 := eq_true p16
              replace q16 := eq_true q16
              have HP17 := Kd.R_putg HO_0.out ((ji13) : Int) ((((Int.tmod x1_1 10) % 256) + 48) % 256)
              go_wp2_with (first | ((with_reducible refine gate_store (t := 5) (p := 25) rfl ?_); refine store_event (t := 5) (p := 25) (v := ?vo_w18) (w1 := (wr.setCell ⟨go16, ((ji13) : Int).toNat, none⟩ (.int .u8 ((((Int.tmod x1_1 10) % 256) + 48) % 256)))) ?hg ?ho ?hn ?hr ?_; (case ho => rfl); (case hg => rfl); (case hn => rfl); (case hr => first | (go_simp; done) | (go_simp; rfl)); intro w18 hw; have hg : wr.grownBy w18 (some go16) := (by rw [hw]; exact HP17.2); have hp_ : Kd.R (Kd.int .u8) 5 w18 w0.heap.size (fun k_ => (P0_ k_ ∨ w.heap.size ≤ k_)) (.slice (some ⟨go16, 0, none⟩) x0_1.length co11) y107 := (by rw [hw, Ny107.out]; exact HP17.1); clear HP17; have n0_ := Aside0.mk (hp_); have n1_ := Aside0.mk ((by rw [hw]; exact below_set (HB.out) GB16.out : Below w0.heap.size w0 w18)); have n2_ := Aside0.mk (Kept.of_grown (S := (fun k_ => P0_ k_)) hg (by repeat (first | (with_reducible first | exact HK.out | apply Kept.alloc | apply Kept.drewN | apply Kept.drew) | exact HK.out)) (fun k_ e_ => (HO_0.out.1 k_ e_))); clear HO_0; clear HB; clear HK; have HO_0 := n0_; have HB := n1_; have HK := n2_; clear n0_ n1_ n2_; clear hg hw hp_))
              (try simp only [← hl0_1])
              go_roundg k1
              case measure => have := HK1.out; omega
              case rel => exact ⟨(y107), (IntKind.u64.wrap (Int.tdiv x1_1 10)), (ji13), (by first | rfl | (simp; done) | (simp [*]; done)), (by first | rfl | (simp; done) | (simp only [← hji13] <;> (first | rfl | simp)) | (simp [*]; done)), H', ⟨by have := HK1.out; omega⟩, ⟨by (try simp only [hl0_1]); (with_reducible repeat (first | apply Kd.R_alloc | apply Kd.R_drewN | apply Kd.R_drew)); exact HO_0.out⟩, ⟨by repeat (first | (with_reducible first | exact HK.out | apply Kept.alloc | apply Kept.drewN | apply Kept.drew) | exact HK.out)⟩, ⟨by repeat (first | (with_reducible first | exact HB.out | apply below_alloc | apply pw_below_drewN | apply below_drew1) | exact HB.out)⟩⟩
            · rw [if_neg c15] at H
              exact absurd H (by simp)
          · rw [if_neg c14] at H
            exact absurd H (by simp)
        · rw [if_neg c12] at H
          have c12b0 : decide (0 < x1_1) = false := decide_eq_false c12
          clear c12
          simp only [Option.some.injEq, Prod.mk.injEq] at H
          obtain ⟨rfl, rfl⟩ := H
          go_wp2
          go_ret
          exact ⟨by first | rfl | (simp [errW_none, errW_some] <;> rfl) | (simp [*, errW_none, errW_some] <;> rfl), (by first | exact (by (with_reducible repeat (first | apply Kd.R_alloc | apply Kd.R_drewN | apply Kd.R_drew)); exact HO_0.out) | (simp only [hl0_1]; exact (by (with_reducible repeat (first | apply Kd.R_alloc | apply Kd.R_drewN | apply Kd.R_drew)); exact HO_0.out))), by repeat (first | (with_reducible first | exact HB.out | apply below_alloc | apply pw_below_drewN | apply below_drew1) | exact HB.out), by repeat (first | (with_reducible first | exact HK.out | apply Kept.alloc | apply Kept.drewN | apply Kept.drew) | exact HK.out)⟩

-- NOT PRINTED: function 45 (time_Duration_format)

-- NOT PRINTED: function 35 (time_Duration_String)

-- NOT PRINTED: function 19 (pflag_durationValue_String)

-- NOT PRINTED: function 6 (impl_SpanValue)

/-! ### spec_unit29: function 36 -/
def spec_unit29.j0 : Nat → ByteArray → Bool → Option (Int)
  | 0, _, _ => none
  | k + 1, x3, x6 => if x6 = true then (some 1000) else (if x3.toList = ([109, 115] : List UInt8) then (some 1000000) else (if x3.toList = ([115] : List UInt8) then (some 1000000000) else (if x3.toList = ([109] : List UInt8) then (some 60000000000) else (if x3.toList = ([104] : List UInt8) then (some 3600000000000) else (some 0)))))
def spec_unit29.f (k : Nat) (a0 : ByteArray) : Option (Int) := if a0.toList = ([110, 115] : List UInt8) then (some 1) else (if a0.toList = ([117, 115] : List UInt8) then (spec_unit29.j0 k a0 (a0.toList == ([117, 115] : List UInt8))) else (if a0.toList = ([194, 181, 115] : List UInt8) then (spec_unit29.j0 k a0 (a0.toList == ([194, 181, 115] : List UInt8))) else (spec_unit29.j0 k a0 (a0.toList == ([206, 188, 115] : List UInt8)))))
theorem spec_unit29.mono_l : ∀ k, (∀ y0 y1, LeO (spec_unit29.j0 k y0 y1) (spec_unit29.j0 (k + 1) y0 y1))
  | 0 => fun _ _ r h => by simp [spec_unit29.j0] at h
  | k + 1 => by
    have ih0 := spec_unit29.mono_l k
    · intro y0 y1
      unfold spec_unit29.j0
      repeat' first
      | (with_reducible exact ih0 _ _)
      | (with_reducible exact LeO.refl _)
      | (with_reducible exact LeO.none _)
      | (with_reducible refine LeO.ite ?_ ?_)
      | (with_reducible refine LeO.bind ?_ (fun _ => ?_))
      | exact ih0 _ _
      | exact LeO.none _
      | refine LeO.ite ?_ ?_
      | refine LeO.bind ?_ (fun _ => ?_)
theorem spec_unit29.mono : ∀ a0 k, LeO (spec_unit29.f k a0) (spec_unit29.f (k + 1) a0) := by
  intro a0 k
  have ih0 := spec_unit29.mono_l k
  unfold spec_unit29.f
  repeat' first
      | (with_reducible exact ih0 _ _)
      | (with_reducible exact LeO.refl _)
      | (with_reducible exact LeO.none _)
      | (with_reducible refine LeO.ite ?_ ?_)
      | (with_reducible refine LeO.bind ?_ (fun _ => ?_))
      | exact ih0 _ _
      | exact LeO.none _
      | refine LeO.ite ?_ ?_
      | refine LeO.bind ?_ (fun _ => ?_)
set_option maxHeartbeats 8000000 in
set_option maxRecDepth 100000 in
theorem spec_unit29.calls (k : Nat) (a0 : ByteArray) (r : Int) (w : World) (h : spec_unit29.f k a0 = some r) :
    Calls Tryd.prog 36 #[.string a0] w fun e w' => e = .returned (.int .u64 r) ∧ Drawn0 w w' := by
  have H : (if a0.toList = ([110, 115] : List UInt8) then (some 1) else (if a0.toList = ([117, 115] : List UInt8) then (spec_unit29.j0 k a0 (a0.toList == ([117, 115] : List UInt8))) else (if a0.toList = ([194, 181, 115] : List UInt8) then (spec_unit29.j0 k a0 (a0.toList == ([194, 181, 115] : List UInt8))) else (spec_unit29.j0 k a0 (a0.toList == ([206, 188, 115] : List UInt8)))))) = some r := h
  clear h
  by_cases c2 : a0.toList = ([110, 115] : List UInt8)
  · rw [if_pos c2] at H
    have c2b0 : (a0.toList == ([110, 115] : List UInt8)) = true := beq_iff_eq.mpr c2
    have c2b1 : (a0.toList != ([110, 115] : List UInt8)) = false := bne_eq_false_iff_eq.mpr c2
    clear c2
    obtain rfl := Option.some.inj H
    go_enter Tryd.func36, Tryd.ntmps36
    go_wp2
    go_ret
    exact ⟨by first | rfl | (simp; done) | (simp [*]; done), by repeat (first | exact Drawn0.refl _ | apply Drawn0.step)⟩
  · rw [if_neg c2] at H
    have c2b0 : (a0.toList == ([110, 115] : List UInt8)) = false := beq_eq_false_iff_ne.mpr c2
    have c2b1 : (a0.toList != ([110, 115] : List UInt8)) = true := bne_iff_ne.mpr c2
    have HC3 := Aside0.mk H
    clear H
    go_enter Tryd.func36, Tryd.ntmps36
    go_upto_if 6 with (fail)
    go_cut [6] (fun v6 wc => ∃ (kq : Nat) (x6_2 : Bool), v6 = .bool x6_2 ∧ Aside0 (spec_unit29.j0 kq a0 x6_2 = some r) ∧ Aside0 (kq ≤ k) ∧ Drawn0 w wc)
    case first =>
      have H := HC3.out
      clear HC3
      by_cases c4 : a0.toList = ([117, 115] : List UInt8)
      · rw [if_pos c4] at H
        have c4b0 : (a0.toList == ([117, 115] : List UInt8)) = true := beq_iff_eq.mpr c4
        have c4b1 : (a0.toList != ([117, 115] : List UInt8)) = false := bne_eq_false_iff_eq.mpr c4
        clear c4
        (first | rw [c4b0] | (simp only [i64_w, i32_w]; rw [c4b0]) | skip)
        have H' := Aside0.mk H
        clear H
        go_wp2
        go_meet
        case rel => exact ⟨_, ((a0.toList == ([117, 115] : List UInt8))), (by first | rfl | (simp; done) | (simp [*]; done)), H', ⟨by first | omega | exact Nat.le_refl _⟩, by repeat (first | exact Drawn0.refl _ | apply Drawn0.step)⟩
      · rw [if_neg c4] at H
        have c4b0 : (a0.toList == ([117, 115] : List UInt8)) = false := beq_eq_false_iff_ne.mpr c4
        have c4b1 : (a0.toList != ([117, 115] : List UInt8)) = true := bne_iff_ne.mpr c4
        (first | rw [c4b0] | (simp only [i64_w, i32_w]; rw [c4b0]) | skip)
        by_cases c5 : a0.toList = ([194, 181, 115] : List UInt8)
        · rw [if_pos c5] at H
          have c5b0 : (a0.toList == ([194, 181, 115] : List UInt8)) = true := beq_iff_eq.mpr c5
          have c5b1 : (a0.toList != ([194, 181, 115] : List UInt8)) = false := bne_eq_false_iff_eq.mpr c5
          clear c5
          have H' := Aside0.mk H
          clear H
          go_wp2
          go_meet
          case rel => exact ⟨_, ((a0.toList == ([194, 181, 115] : List UInt8))), (by first | rfl | (simp; done) | (simp [*]; done)), H', ⟨by first | omega | exact Nat.le_refl _⟩, by repeat (first | exact Drawn0.refl _ | apply Drawn0.step)⟩
        · rw [if_neg c5] at H
          have c5b0 : (a0.toList == ([194, 181, 115] : List UInt8)) = false := beq_eq_false_iff_ne.mpr c5
          have c5b1 : (a0.toList != ([194, 181, 115] : List UInt8)) = true := bne_iff_ne.mpr c5
          have H' := Aside0.mk H
          clear H
          go_wp2
          go_meet
          case rel => exact ⟨_, ((a0.toList == ([206, 188, 115] : List UInt8))), (by first | rfl | (simp; done) | (simp [*]; done)), H', ⟨by first | omega | exact Nat.le_refl _⟩, by repeat (first | exact Drawn0.refl _ | apply Drawn0.step)⟩
    case rest =>
      clear HC3
      try clear c2
      try clear c2b0
      try clear c2b1
      try clear p2
      try clear c3
      try clear c4
      try clear c4b0
      try clear c4b1
      try clear c5
      try clear c5b0
      try clear c5b1
      obtain ⟨kq, x6_2, rfl, HA, HJ2, ⟨mc2, rfl⟩⟩ := hcut
      cases kq with
      | zero => exact absurd HA.out (by simp [spec_unit29.j0])
      | succ kj2 =>
        have H := HA.out
        clear HA
        simp only [spec_unit29.j0] at H
        by_cases c6 : x6_2 = true
        · subst c6
          have H1 : (some 1000) = some r := by rw [if_pos rfl] at H; exact H
          clear H
          have H := H1
          clear H1
          obtain rfl := Option.some.inj H
          go_wp2
          go_ret
          exact ⟨by first | rfl | (simp; done) | (simp [*]; done), by repeat (first | exact Drawn0.refl _ | apply Drawn0.step)⟩
        · replace c6 := Bool.eq_false_iff.mpr c6
          subst c6
          have H1 : (if a0.toList = ([109, 115] : List UInt8) then (some 1000000) else (if a0.toList = ([115] : List UInt8) then (some 1000000000) else (if a0.toList = ([109] : List UInt8) then (some 60000000000) else (if a0.toList = ([104] : List UInt8) then (some 3600000000000) else (some 0))))) = some r := by rw [if_neg (show ¬ (false = true) by decide)] at H; exact H
          clear H
          have H := H1
          clear H1
          by_cases c7 : a0.toList = ([109, 115] : List UInt8)
          · rw [if_pos c7] at H
            have c7b0 : (a0.toList == ([109, 115] : List UInt8)) = true := beq_iff_eq.mpr c7
            have c7b1 : (a0.toList != ([109, 115] : List UInt8)) = false := bne_eq_false_iff_eq.mpr c7
            clear c7
            obtain rfl := Option.some.inj H
            go_wp2
            go_ret
            exact ⟨by first | rfl | (simp; done) | (simp [*]; done), by repeat (first | exact Drawn0.refl _ | apply Drawn0.step)⟩
          · rw [if_neg c7] at H
            have c7b0 : (a0.toList == ([109, 115] : List UInt8)) = false := beq_eq_false_iff_ne.mpr c7
            have c7b1 : (a0.toList != ([109, 115] : List UInt8)) = true := bne_iff_ne.mpr c7
            by_cases c8 : a0.toList = ([115] : List UInt8)
            · rw [if_pos c8] at H
              have c8b0 : (a0.toList == ([115] : List UInt8)) = true := beq_iff_eq.mpr c8
              have c8b1 : (a0.toList != ([115] : List UInt8)) = false := bne_eq_false_iff_eq.mpr c8
              clear c8
              obtain rfl := Option.some.inj H
              go_wp2
              go_ret
              exact ⟨by first | rfl | (simp; done) | (simp [*]; done), by repeat (first | exact Drawn0.refl _ | apply Drawn0.step)⟩
            · rw [if_neg c8] at H
              have c8b0 : (a0.toList == ([115] : List UInt8)) = false := beq_eq_false_iff_ne.mpr c8
              have c8b1 : (a0.toList != ([115] : List UInt8)) = true := bne_iff_ne.mpr c8
              by_cases c9 : a0.toList = ([109] : List UInt8)
              · rw [if_pos c9] at H
                have c9b0 : (a0.toList == ([109] : List UInt8)) = true := beq_iff_eq.mpr c9
                have c9b1 : (a0.toList != ([109] : List UInt8)) = false := bne_eq_false_iff_eq.mpr c9
                clear c9
                obtain rfl := Option.some.inj H
                go_wp2
                go_ret
                exact ⟨by first | rfl | (simp; done) | (simp [*]; done), by repeat (first | exact Drawn0.refl _ | apply Drawn0.step)⟩
              · rw [if_neg c9] at H
                have c9b0 : (a0.toList == ([109] : List UInt8)) = false := beq_eq_false_iff_ne.mpr c9
                have c9b1 : (a0.toList != ([109] : List UInt8)) = true := bne_iff_ne.mpr c9
                by_cases c10 : a0.toList = ([104] : List UInt8)
                · rw [if_pos c10] at H
                  have c10b0 : (a0.toList == ([104] : List UInt8)) = true := beq_iff_eq.mpr c10
                  have c10b1 : (a0.toList != ([104] : List UInt8)) = false := bne_eq_false_iff_eq.mpr c10
                  clear c10
                  obtain rfl := Option.some.inj H
                  go_wp2
                  go_ret
                  exact ⟨by first | rfl | (simp; done) | (simp [*]; done), by repeat (first | exact Drawn0.refl _ | apply Drawn0.step)⟩
                · rw [if_neg c10] at H
                  have c10b0 : (a0.toList == ([104] : List UInt8)) = false := beq_eq_false_iff_ne.mpr c10
                  have c10b1 : (a0.toList != ([104] : List UInt8)) = true := bne_iff_ne.mpr c10
                  obtain rfl := Option.some.inj H
                  go_wp2
                  go_ret
                  exact ⟨by first | rfl | (simp; done) | (simp [*]; done), by repeat (first | exact Drawn0.refl _ | apply Drawn0.step)⟩

end Go.Proofs.YtjkmidohcidkiaaDoor.PFnSpans
