/- The walks of the law's heard29 and of the reference's spec.SpanText: a duration written as text. -/
import Derived.Test.YtjkmidohcidkiaaDoorText
import Derived.WalkLawsBesides
import Derived.Deep.CutBlock
import Derived.Deep.DeepCutAuto
namespace Go.Proofs.YtjkmidohcidkiaaDoor.Fmt
open Go.RowKit Go.Proofs.YtjkmidohcidkiaaDoorW.PrintWords Go.Proofs.YtjkmidohcidkiaaDoor.PFnSpans

theorem heard_any (k : Int) (hk : k = 0 ∨ k = 1 ∨ k = 2) (b : Bool) (w : World) : Calls Tryd.prog 8 #[.int .i64 k, .bool b] w fun e w' => e = .returned (.bool (k == 0 || b == (k == 2))) ∧ w' = w := by
  rcases hk with rfl | rfl | rfl
  · go_enter Tryd.func8, Tryd.ntmps8
    go_wp2
    go_ret
    exact ⟨rfl, rfl⟩
  · cases b
    · go_enter Tryd.func8, Tryd.ntmps8
      go_wp2
      go_ret
      exact ⟨rfl, rfl⟩
    · go_enter Tryd.func8, Tryd.ntmps8
      go_wp2
      go_ret
      exact ⟨rfl, rfl⟩
  · cases b
    · go_enter Tryd.func8, Tryd.ntmps8
      go_wp2
      go_ret
      exact ⟨rfl, rfl⟩
    · go_enter Tryd.func8, Tryd.ntmps8
      go_wp2
      go_ret
      exact ⟨rfl, rfl⟩

theorem num_len (v : Nat) (hv : v < 18446744073709551616) : (strOfNums (dec v)).size ≤ 40 := by
  rw [strOfNums_size]
  have := dec_len_le 20 v (by omega) (by omega)
  omega

def sgn (d : Int) : ByteArray := if d < 0 then ⟨#[45]⟩ else ⟨#[]⟩
theorem sgn_nums (d : Int) : sgn d = strOfNums (if d < 0 then [45] else []) := by
  unfold sgn
  split <;> rfl

set_option maxRecDepth 100000 in
set_option maxHeartbeats 3200000 in
theorem SpanText_any (d : Int) (w : World) (h1 : -9223372036854775808 ≤ d) (h2 : d ≤ 9223372036854775807) :
    Calls Tryd.prog 9 #[.int .i64 d] w fun e w' => e = .returned (.string (durStr d)) ∧ Below w.heap.size w w' := by
  by_cases h0 : d = 0
  · subst h0
    go_enter Tryd.func9, Tryd.ntmps9
    go_wp2
    go_ret
    exact ⟨rfl, Below.refl _ _⟩
  have t8 : (d == 0) = false := by simp; omega
  obtain ⟨u, hu⟩ : ∃ u, d.natAbs = u := ⟨_, rfl⟩
  have hu2 : u ≤ 9223372036854775808 := by omega
  have hdur : Hid (durStr d = sgn d ++ strOfNums (durU u)) := by
    show _ = _
    rw [sgn_nums, sn_append, durStr, durS, if_neg h0, hu]
  have hsz : (sgn d).size ≤ 1 := by unfold sgn; split <;> simp [ByteArray.size]
  clear h0
  go_enter Tryd.func9, Tryd.ntmps9
  go_upto_if 12 with (fail)
  go_cut [3, 4] (fun uv sv w1 => uv = .int .u64 (u : Int) ∧ sv = .string (sgn d) ∧ w1 = w)
  case first =>
    by_cases hneg : d < 0
    · have t12 : decide (d < 0) = true := by simp; omega
      have hs : sgn d = ⟨#[45]⟩ := if_pos hneg
      have hw : IntKind.u64.wrap (-(IntKind.u64.wrap d)) = (u : Int) := by rw [IntKind.wrap_u64, IntKind.wrap_u64]; omega
      go_wp2_with fail
      go_meet
      case rel => exact ⟨rfl, by rw [hs], rfl⟩
    · have t12 : decide (d < 0) = false := by simp; omega
      have hs : sgn d = ⟨#[]⟩ := if_neg hneg
      have hw : IntKind.u64.wrap d = (u : Int) := by rw [IntKind.wrap_u64]; omega
      go_wp2_with fail
      go_meet
      case rel => exact ⟨rfl, by rw [hs], rfl⟩
  case rest =>
    obtain ⟨rfl, rfl, rfl⟩ := hcut
    by_cases k1 : u < 1000
    · have t17 : decide ((u : Int) < 1000) = true := by simp; omega
      have hfin : Hid (durStr d = sgn d ++ strOfNums (dec u) ++ ⟨#[110, 115]⟩) := by
        show _ = _
        rw [hdur.out, durU, if_pos k1, ← sn_append, ByteArray.append_assoc]; rfl
      have hl := num_len u (by omega)
      clear k1
      go_wp2_with fail
      refine (num_any u (by omega) _).mono ?_
      rintro e w1 ⟨rfl, hb⟩
      obtain ⟨n1, hn1⟩ : ∃ n1, strOfNums (dec u) = n1 := ⟨_, rfl⟩
      rw [hn1] at hfin hl ⊢
      clear hn1
      have g1 : (sgn d).size + n1.size ≤ 9223372036854775807 := by omega
      have g2 : (sgn d).size + n1.size + 2 ≤ 9223372036854775807 := by omega
      go_wp2
      go_ret
      exact ⟨by rw [hfin.out]; rfl, hb⟩
    have t17 : decide ((u : Int) < 1000) = false := by simp; omega
    by_cases k2 : u < 1000000
    · have t25 : decide ((u : Int) < 1000000) = true := by simp; omega
      have hfin : Hid (durStr d = sgn d ++ strOfNums (dec (u / 1000) ++ frac 3 u) ++ ⟨#[194, 181, 115]⟩) := by
        show _ = _
        rw [hdur.out, durU, if_neg k1, if_pos k2, ← List.append_assoc, ← sn_append, ByteArray.append_assoc]; rfl
      have hl := pointed_len 3 u 1000 (by omega) (by omega)
      clear k1 k2
      go_wp2_with fail
      refine (pointed_any 3 u 1000 rfl (by omega) (by omega) _).mono ?_
      rintro e w1 ⟨rfl, hb⟩
      obtain ⟨n1, hn1⟩ : ∃ n1, strOfNums (dec (u / 1000) ++ frac 3 u) = n1 := ⟨_, rfl⟩
      rw [hn1] at hfin hl ⊢
      clear hn1
      have g1 : (sgn d).size + n1.size ≤ 9223372036854775807 := by omega
      have g2 : (sgn d).size + n1.size + 3 ≤ 9223372036854775807 := by omega
      go_wp2
      go_ret
      exact ⟨by rw [hfin.out]; rfl, hb⟩
    have t25 : decide ((u : Int) < 1000000) = false := by simp; omega
    by_cases k3 : u < 1000000000
    · have t33 : decide ((u : Int) < 1000000000) = true := by simp; omega
      have hfin : Hid (durStr d = sgn d ++ strOfNums (dec (u / 1000000) ++ frac 6 u) ++ ⟨#[109, 115]⟩) := by
        show _ = _
        rw [hdur.out, durU, if_neg k1, if_neg k2, if_pos k3, ← List.append_assoc, ← sn_append, ByteArray.append_assoc]; rfl
      have hl := pointed_len 6 u 1000000 (by omega) (by omega)
      clear k1 k2 k3
      go_wp2_with fail
      refine (pointed_any 6 u 1000000 rfl (by omega) (by omega) _).mono ?_
      rintro e w1 ⟨rfl, hb⟩
      obtain ⟨n1, hn1⟩ : ∃ n1, strOfNums (dec (u / 1000000) ++ frac 6 u) = n1 := ⟨_, rfl⟩
      rw [hn1] at hfin hl ⊢
      clear hn1
      have g1 : (sgn d).size + n1.size ≤ 9223372036854775807 := by omega
      have g2 : (sgn d).size + n1.size + 2 ≤ 9223372036854775807 := by omega
      go_wp2
      go_ret
      exact ⟨by rw [hfin.out]; rfl, hb⟩
    have t33 : decide ((u : Int) < 1000000000) = false := by simp; omega
    obtain ⟨q, hq⟩ : ∃ q, u / 1000000000 = q := ⟨_, rfl⟩
    have hqi : (u : Int) / 1000000000 = (q : Int) := by omega
    have hq2 : q ≤ 9223372037 := by omega
    obtain ⟨v, hv⟩ : ∃ v, q % 60 * 1000000000 + u % 1000000000 = v := ⟨_, rfl⟩
    have hvi : IntKind.u64.wrap (IntKind.u64.wrap ((q : Int) % 60 * 1000000000) + (u : Int) % 1000000000) = (v : Int) := by
      rw [IntKind.wrap_u64, IntKind.wrap_u64]; omega
    have hv2 : v ≤ 60000000000 := by omega
    have hv3 : v / 1000000000 = q % 60 := by omega
    have hv4 : frac 9 v = frac 9 u := frac_mod 9 v u (by show v % 1000000000 = u % 1000000000; omega)
    have hl := pointed_len 9 v 1000000000 (by omega) (by omega)
    have hx0 : IntKind.u64.wrap ((q : Int) % 60 * 1000000000) = ((q % 60 * 1000000000 : Nat) : Int) := by rw [IntKind.wrap_u64]; omega
    have hdu : Hid (durU u = if q < 60 then dec (v / 1000000000) ++ frac 9 v ++ [115]
        else if q < 3600 then dec (q / 60 % 60) ++ [109] ++ (dec (v / 1000000000) ++ frac 9 v ++ [115])
        else dec (q / 3600) ++ [104] ++ (dec (q / 60 % 60) ++ [109] ++ (dec (v / 1000000000) ++ frac 9 v ++ [115]))) := by
      show _ = _
      rw [durU, if_neg k1, if_neg k2, if_neg k3, hq, hv3, hv4]
      by_cases j1 : q < 60
      · rw [if_pos j1, if_pos j1, show q % 60 = q by omega, List.append_assoc]
      · rw [if_neg j1, if_neg j1]
        by_cases j2 : q < 3600
        · rw [if_pos j2, if_pos j2, show u / 60000000000 = q / 60 % 60 by omega]
          simp [List.append_assoc]
        · rw [if_neg j2, if_neg j2, show u / 60000000000 = q / 60 by omega, show u / 3600000000000 = q / 3600 by omega]
          simp [List.append_assoc]
    clear k1 k2 k3 hv3 hv4
    go_wp2_with fail
    rw [show (q : Int) % 60 * 1000000000 + (u : Int) % 1000000000 = (v : Int) by omega]
    refine (pointed_any 9 v 1000000000 rfl (by omega) (by omega) _).mono ?_
    rintro e w1 ⟨rfl, hb⟩
    obtain ⟨n1, hn1⟩ : ∃ n1, strOfNums (dec (v / 1000000000) ++ frac 9 v) = n1 := ⟨_, rfl⟩
    rw [hn1] at hl ⊢
    have g0 : n1.size + 1 ≤ 9223372036854775807 := by omega
    have hs15 : (⟨#[115]⟩ : ByteArray) = strOfNums [115] := rfl
    have Hn1 : Hid (strOfNums (dec (v / 1000000000) ++ frac 9 v ++ [115]) = n1 ++ ⟨#[115]⟩) := by
      show _ = _
      rw [hs15, ← hn1, sn_append]
    clear hn1 hvi hx0 hv hs15 hq hqi
    by_cases j1 : q < 60
    · have t50 : decide ((60 : Int) ≤ (q : Int)) = false := by simp; omega
      have t59 : decide ((3600 : Int) ≤ (q : Int)) = false := by simp; omega
      have hfin : Hid (durStr d = sgn d ++ (n1 ++ ⟨#[115]⟩)) := by
        show _ = _
        rw [hdur.out, hdu.out, if_pos j1, Hn1.out]
      have g1 : (sgn d).size + (n1.size + 1) ≤ 9223372036854775807 := by omega
      clear j1
      go_wp2
      go_ret
      exact ⟨by rw [hfin.out]; rfl, hb⟩
    have t50 : decide ((60 : Int) ≤ (q : Int)) = true := by simp; omega
    go_wp2_with fail
    rw [show (q : Int) / 60 % 60 = ((q / 60 % 60 : Nat) : Int) by omega]
    refine (num_any (q / 60 % 60) (by omega) _).mono ?_
    rintro e w2 ⟨rfl, hb2⟩
    have hl2 := num_len (q / 60 % 60) (by omega)
    obtain ⟨n2, hn2⟩ : ∃ n2, strOfNums (dec (q / 60 % 60)) = n2 := ⟨_, rfl⟩
    rw [hn2] at hl2 ⊢
    have Hn2 : Hid (strOfNums (dec (q / 60 % 60) ++ [109] ++ (dec (v / 1000000000) ++ frac 9 v ++ [115])) = n2 ++ ⟨#[109]⟩ ++ (n1 ++ ⟨#[115]⟩)) := by
      show _ = _
      rw [← sn_append, Hn1.out, ← sn_append, hn2]; rfl
    clear hn2
    have g1 : n2.size + 1 ≤ 9223372036854775807 := by omega
    have g2 : n2.size + 1 + (n1.size + 1) ≤ 9223372036854775807 := by omega
    have hb3 : Below wc.heap.size wc w2 := hb.trans (hb2.mono hb.size)
    by_cases j2 : q < 3600
    · have t59 : decide ((3600 : Int) ≤ (q : Int)) = false := by simp; omega
      have hfin : Hid (durStr d = sgn d ++ (n2 ++ ⟨#[109]⟩ ++ (n1 ++ ⟨#[115]⟩))) := by
        show _ = _
        rw [hdur.out, hdu.out, if_neg j1, if_pos j2, Hn2.out]
      have g3 : (sgn d).size + (n2.size + 1 + (n1.size + 1)) ≤ 9223372036854775807 := by omega
      clear j1 j2
      go_wp2
      go_ret
      exact ⟨by rw [hfin.out]; rfl, hb3⟩
    have t59 : decide ((3600 : Int) ≤ (q : Int)) = true := by simp; omega
    go_wp2_with fail
    rw [show (q : Int) / 3600 = ((q / 3600 : Nat) : Int) by omega]
    refine (num_any (q / 3600) (by omega) _).mono ?_
    rintro e w3 ⟨rfl, hb4⟩
    have hl3 := num_len (q / 3600) (by omega)
    obtain ⟨n3, hn3⟩ : ∃ n3, strOfNums (dec (q / 3600)) = n3 := ⟨_, rfl⟩
    rw [hn3] at hl3 ⊢
    have hfin : Hid (durStr d = sgn d ++ (n3 ++ ⟨#[104]⟩ ++ (n2 ++ ⟨#[109]⟩ ++ (n1 ++ ⟨#[115]⟩)))) := by
      show _ = _
      rw [hdur.out, hdu.out, if_neg j1, if_neg j2, ← sn_append, Hn2.out, ← sn_append, hn3]; rfl
    clear hn3 j1 j2
    have g3 : n3.size + 1 ≤ 9223372036854775807 := by omega
    have g4 : n3.size + 1 + (n2.size + 1 + (n1.size + 1)) ≤ 9223372036854775807 := by omega
    have g5 : (sgn d).size + (n3.size + 1 + (n2.size + 1 + (n1.size + 1))) ≤ 9223372036854775807 := by omega
    have hb5 : Below wc.heap.size wc w3 := hb3.trans (hb4.mono hb3.size)
    go_wp2
    go_ret
    exact ⟨by rw [hfin.out]; rfl, hb5⟩
end Go.Proofs.YtjkmidohcidkiaaDoor.Fmt
