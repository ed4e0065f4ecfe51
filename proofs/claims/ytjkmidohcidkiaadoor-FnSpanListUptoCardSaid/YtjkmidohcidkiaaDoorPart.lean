/- The walk of the reference's spec.part29: the first part of a duration's text. -/
import Derived.Test.YtjkmidohcidkiaaDoorFrac
import Derived.Test.YtjkmidohcidkiaaDoorSteps
import Derived.WalkLawsBesides
import Derived.BigQuiet
import Derived.Deep.LoopGhost
import Derived.Deep.DeepCutAuto
import Derived.Deep.CutBlock
import Derived.Test.YtjkmidohcidkiaaDoorPFnSpansx1
namespace Go.Proofs.YtjkmidohcidkiaaDoor.Pt
open Go.RowKit Go.Proofs.YtjkmidohcidkiaaDoorW.PrintWords Go.Proofs.YtjkmidohcidkiaaDoor.Sp

def PartOut (s : ByteArray) (v : Value) : Prop :=
  (partR (bl s) = .wrong ∧ v = .tuple #[.int .u64 0, .string ⟨#[]⟩, .int .i64 2]) ∨
  (partR (bl s) = .opn ∧ v = .tuple #[.int .u64 0, .string ⟨#[]⟩, .int .i64 0]) ∨
  (∃ (n : Nat) (r : ByteArray), partR (bl s) = .fit n (bl r) ∧ v = .tuple #[.int .u64 n, .string r, .int .i64 1])
def PartEnd (s : ByteArray) (w : World) (e : Ending) (w' : World) : Prop := ∃ n v, w' = w.drewN n ∧ e = .returned v ∧ PartOut s v

theorem drop_cons (s : ByteArray) (D : Nat) (h : D < s.size) : (bl s).drop D = s[D] :: (bl s).drop (D + 1) := List.drop_eq_getElem_cons (by rw [bl_len]; exact h)
theorem partR_big (l : List UInt8) (h : top < val (digs l)) : partR l = .wrong := by unfold partR; rw [if_pos h]
theorem partR_open (l : List UInt8) (h : val (digs l) ≤ top) (h2 : 12 < cntF (l.drop (digN l))) : partR l = .opn := by unfold partR; rw [if_neg (by omega), if_pos h2]
theorem partR_none (l : List UInt8) (h : val (digs l) ≤ top) (h2 : digN l = 0) (h3 : cntF (l.drop (digN l)) = 0) : partR l = .wrong := by unfold partR; rw [if_neg (by omega), if_neg (by omega), if_pos ⟨h2, h3⟩]
theorem partR_E (l : List UInt8) (h : val (digs l) ≤ top) (h2 : cntF (l.drop (digN l)) ≤ 12) (h3 : ¬ (digN l = 0 ∧ cntF (l.drop (digN l)) = 0)) :
    partR l = partE (val (digs l)) (valF (l.drop (digN l))) (cntF (l.drop (digN l))) (restF (l.drop (digN l))) := by unfold partR; rw [if_neg (by omega), if_neg (by omega), if_neg h3]

theorem small' (t : List UInt8) (k : Nat) (hk : k ≤ digN t) (h : k ≤ 12) : val (t.take k) < 1000000000000 := by
  have h1 := val_lt (t.take k) (fun c hc => digs_mem t c (by
    rw [digs_take]
    exact List.mem_of_mem_take (show c ∈ (t.take (digN t)).take k by rw [List.take_take, Nat.min_eq_left hk]; exact hc)))
  have h2 : 10 ^ (t.take k).length ≤ 10 ^ 12 := Nat.pow_le_pow_right (by omega) (by rw [List.length_take]; omega)
  have h3 : (10 : Nat) ^ 12 = 1000000000000 := by decide
  omega

theorem valF_lt (l : List UInt8) : valF l < 10 ^ cntF l := by
  cases l with
  | nil => simp [valF, cntF]
  | cons c t =>
    by_cases hc : c = 46
    · rw [valF, if_pos hc, cntF, if_pos hc]
      exact val_lt _ (fun d hd => digs_mem _ _ hd)
    · rw [valF, if_neg hc, cntF, if_neg hc]; simp
theorem bl_part (s : ByteArray) (i k : Nat) : bl (s.extract i k) = ((bl s).drop i).take (k - i) := by
  unfold bl
  simp [List.extract_eq_take_drop, List.drop_take]
theorem bl_from' (s : ByteArray) (i : Nat) : bl (s.extract i s.size) = (bl s).drop i := by
  rw [bl_part, List.take_of_length_le (by rw [List.length_drop, bl_len]; omega)]
theorem unit_ev (s : ByteArray) (k : Nat) : PFnSpans.spec_unit29.f (k + 1) s = some ((unitOf (bl s) : Nat) : Int) := by
  unfold PFnSpans.spec_unit29.f
  simp only [PFnSpans.spec_unit29.j0]
  rw [show s.toList = bl s from ByteArray.toList_eq s]
  unfold unitOf
  by_cases h1 : bl s = [110, 115]
  · rw [if_pos h1, if_pos h1]; rfl
  rw [if_neg h1, if_neg h1]
  by_cases h2 : bl s = [117, 115]
  · rw [if_pos h2, if_pos (by simp [h2]), if_pos (.inl h2)]; rfl
  rw [if_neg h2]
  by_cases h3 : bl s = [194, 181, 115]
  · rw [if_pos h3, if_pos (by simp [h3]), if_pos (.inr (.inl h3))]; rfl
  rw [if_neg h3]
  by_cases h4 : bl s = [206, 188, 115]
  · rw [if_pos (by simp [h4]), if_pos (.inr (.inr h4))]; rfl
  rw [if_neg (by simp [h4]), if_neg (show ¬ (bl s = [117, 115] ∨ bl s = [194, 181, 115] ∨ bl s = [206, 188, 115]) by simp [h2, h3, h4])]
  by_cases h5 : bl s = [109, 115]
  · rw [if_pos h5, if_pos h5]; rfl
  rw [if_neg h5, if_neg h5]
  by_cases h6 : bl s = [115]
  · rw [if_pos h6, if_pos h6]; rfl
  rw [if_neg h6, if_neg h6]
  by_cases h7 : bl s = [109]
  · rw [if_pos h7, if_pos h7]; rfl
  rw [if_neg h7, if_neg h7]
  by_cases h8 : bl s = [104]
  · rw [if_pos h8, if_pos h8]; rfl
  rw [if_neg h8, if_neg h8]; rfl
theorem unit_any (u : ByteArray) (w : World) : Calls Tryd.prog 36 #[.string u] w fun e w' => ∃ n, e = .returned (.int .u64 ((unitOf (bl u) : Nat) : Int)) ∧ w' = w.drewN n :=
  (PFnSpans.spec_unit29.calls 1 u _ w (unit_ev u 0)).mono (by
    rintro e w' ⟨rfl, ⟨n, rfl⟩⟩
    exact ⟨n, rfl, rfl⟩)
theorem unit_le (l : List UInt8) : unitOf l ≤ 3600000000000 := by
  by_cases h : unitOf l = 0
  · omega
  · have := unitOf_units l h
    simp at this
    omega

set_option maxRecDepth 100000 in
set_option maxHeartbeats 3200000 in
theorem part_any (s : ByteArray) (w : World) (hs : s.size ≤ 2147483647) : Calls Tryd.prog 20 #[.string s] w (PartEnd s w) := by
  have hdl := digN_le (bl s)
  rw [bl_len] at hdl
  go_enter Tryd.func20, Tryd.ntmps20
  go_upto_block 0 with (fail)
  go_cut [5, 6] (fun iv nv w1 => ∃ v : Nat, iv = .int .i64 (digN (bl s)) ∧ nv = .int .u64 v ∧ v ≤ 9223372036854775808 ∧ Hid (v = val (digs (bl s))) ∧ w1 = w)
  case first =>
    go_wp2_with fail
    go_loop [5, 6] (fun iv nv => ∃ k x : Nat, k ≤ digN (bl s) ∧ iv = .int .i64 k ∧ nv = .int .u64 x ∧ x = val ((bl s).take k) ∧ x ≤ 9223372036854775808) (fun iv _ => s.size - (intOf iv).toNat)
    case atStart => exact ⟨0, 0, Nat.zero_le _, rfl, rfl, rfl, by omega⟩
    case round =>
      obtain ⟨k, x, hk, rfl, rfl, hx, hx2⟩ := hrel
      have Hx := Lib.hid hx
      clear hx
      by_cases hlt : k < digN (bl s)
      · have hks : k < s.size := by omega
        obtain ⟨hk2, hd⟩ := dig_at _ k hlt
        rw [show (bl s)[k] = s[k] from rfl, isDig_iff] at hd
        have hst := val_step (bl s) k hk2 (by rw [show (bl s)[k] = s[k] from rfl, isDig_iff]; exact hd)
        rw [show (bl s)[k] = s[k] from rfl, ← Hx.out] at hst
        have Hst := Lib.hid hst
        have Htot := Lib.hid (val_pre (bl s) (k + 1) hlt)
        have t22 : decide ((48 : Int) ≤ (s[k].toNat : Int)) = true := by simp; omega
        have t28 : decide ((s[k].toNat : Int) ≤ 57) = true := by simp; omega
        have hd1 := hd.1
        have hd2 := hd.2
        clear hst hd
        by_cases hov : 9223372036854775808 < x * 10 + (s[k].toNat - 48)
        · have t38 : decide ((9223372036854775808 - ((s[k].toNat : Int) - 48)) / 10 < (x : Int)) = true := by simp; omega
          have hout : PartOut s (.tuple #[.int .u64 0, .string ⟨#[]⟩, .int .i64 2]) := .inl ⟨partR_big _ (Nat.lt_of_lt_of_le (by show 9223372036854775808 < _; rw [Hst.out]; exact hov) Htot.out), rfl⟩
          go_wp2
          go_ret3
          exact ⟨0, _, rfl, rfl, hout⟩
        · have t38 : decide ((9223372036854775808 - ((s[k].toNat : Int) - 48)) / 10 < (x : Int)) = false := by simp; omega
          have hno : x * 10 + (s[k].toNat - 48) ≤ 9223372036854775808 := by omega
          have Hno := Lib.hid hno
          clear hno
          go_wp2
          exact ⟨⟨k + 1, x * 10 + (s[k].toNat - 48), by omega, by simp, by congr 1; omega, Hst.out.symm, Hno.out⟩, by simp [intOf]; omega⟩
      · obtain rfl : k = digN (bl s) := by omega
        have Hv : Hid (x = val (digs (bl s))) := by show _ = _; rw [digs_take]; exact Hx.out
        have hend : ∀ h : digN (bl s) < s.size, isDig s[digN (bl s)] = false := fun h => dig_end (bl s) (by rw [bl_len]; exact h)
        clear Hx hlt hk
        generalize hD : digN (bl s) = D at *
        by_cases hks : D < s.size
        · have hd := hend hks
          have hd1 : ¬ (48 ≤ s[D].toNat ∧ s[D].toNat ≤ 57) := by rw [← isDig_iff, hd]; simp
          clear hend hd hD
          rcases Nat.lt_or_ge s[D].toNat 48 with hlo | hlo
          · have t22 : decide ((48 : Int) ≤ (s[D].toNat : Int)) = false := by simp; omega
            clear hd1
            go_wp2
            go_meet
            case rel => exact ⟨x, rfl, rfl, hx2, Hv, rfl⟩
          · have t22 : decide ((48 : Int) ≤ (s[D].toNat : Int)) = true := by simp; omega
            have t28 : decide ((s[D].toNat : Int) ≤ 57) = false := by simp; omega
            clear hd1
            go_wp2
            go_meet
            case rel => exact ⟨x, rfl, rfl, hx2, Hv, rfl⟩
        · clear hend hD
          go_wp2
          go_meet
          case rel => exact ⟨x, rfl, rfl, hx2, Hv, rfl⟩
  case rest =>
    obtain ⟨v, rfl, rfl, hv, Hv, rfl⟩ := hcut
    generalize hD : digN (bl s) = D at *
    have HD := Lib.hid hD
    clear hD
    go_upto_region 10 with (fail)
    go_cut [59] (fun b w1 => ∃ dot : Bool, b = .bool dot ∧ Hid (dot = true ↔ D < s.size ∧ ∃ t, (bl s).drop D = 46 :: t) ∧ w1 = wc)
    case first =>
      by_cases hks : D < s.size
      · have hdc := drop_cons s D hks
        by_cases h46 : s[D].toNat = 46
        · have t58 : ((s[D].toNat : Int) == 46) = true := by simp; omega
          have Hd : Hid (D < s.size ∧ ∃ t, (bl s).drop D = 46 :: t) := ⟨hks, _, by rw [hdc, UInt8.toNat_inj.1 (show s[D].toNat = (46 : UInt8).toNat from h46)]⟩
          clear hdc h46
          go_wp2
          go_meet
          case rel => exact ⟨true, rfl, ⟨fun _ => Hd.out, fun _ => rfl⟩, rfl⟩
        · have t58 : ((s[D].toNat : Int) == 46) = false := by simp; omega
          have Hd : Hid (¬ (D < s.size ∧ ∃ t, (bl s).drop D = 46 :: t)) := by
            rintro ⟨_, t, ht⟩
            rw [hdc] at ht
            injection ht with h1 h2
            exact h46 (by rw [h1]; rfl)
          clear hdc h46
          go_wp2
          go_meet
          case rel => exact ⟨false, rfl, ⟨(fun h => Bool.noConfusion h), (fun h => absurd h Hd.out)⟩, rfl⟩
      · have Hd : Hid (¬ (D < s.size ∧ ∃ t, (bl s).drop D = 46 :: t)) := fun h => hks h.1
        go_wp2
        go_meet
        case rel => exact ⟨false, rfl, ⟨(fun h => Bool.noConfusion h), (fun h => absurd h Hd.out)⟩, rfl⟩
    case rest =>
      obtain ⟨dot, rfl, Hdot, rfl⟩ := hcut
      go_upto_if 59 with (fail)
      go_cut [5, 8, 9, 10] (fun iv fv pv cv w1 => ∃ i f p c : Nat, iv = .int .i64 i ∧ fv = .int .u64 f ∧ pv = .int .u64 p ∧ cv = .int .i64 c ∧ i ≤ s.size ∧ c ≤ 12 ∧ Hid (p = 10 ^ c) ∧ Hid (c = cntF ((bl s).drop D)) ∧ Hid (f = valF ((bl s).drop D)) ∧ Hid ((bl s).drop i = restF ((bl s).drop D)) ∧ w1 = wc)
      case first =>
        cases dot
        · go_wp2_with fail
          go_meet
          case rel =>
            have hn : ¬ ∃ t, (bl s).drop D = 46 :: t := fun h => by
              have hlt : D < s.size := by
                obtain ⟨t, ht⟩ := h
                have := congrArg List.length ht
                simp at this
                rw [bl_len] at this
                omega
              have := Hdot.out.2 ⟨hlt, h⟩
              cases this
            have hz : cntF ((bl s).drop D) = 0 ∧ valF ((bl s).drop D) = 0 ∧ restF ((bl s).drop D) = (bl s).drop D := by
              cases hl : (bl s).drop D with
              | nil => exact ⟨rfl, rfl, rfl⟩
              | cons c t =>
                have hc : ¬ c = 46 := fun e => hn ⟨t, by rw [hl, e]⟩
                exact ⟨if_neg hc, if_neg hc, if_neg hc⟩
            exact ⟨D, 0, 1, 0, rfl, rfl, rfl, rfl, hdl, by omega, rfl, hz.1.symm, hz.2.1.symm, hz.2.2.symm, rfl⟩
        · obtain ⟨hDs, t, ht⟩ := Hdot.out.1 rfl
          have ht2 : (bl s).drop (D + 1) = t := by
            have := drop_cons s D hDs
            rw [ht] at this
            injection this with _ h
            exact h.symm
          obtain ⟨q, hq⟩ : ∃ q, D + 1 = q := ⟨_, rfl⟩
          have hcv : cntF ((bl s).drop D) = digN t ∧ valF ((bl s).drop D) = val (digs t) ∧ restF ((bl s).drop D) = t.drop (digN t) := by
            rw [ht]; exact ⟨by simp [cntF], by simp [valF], by simp [restF]⟩
          have Hcv := Lib.hid hcv
          rw [hq] at ht2
          have Ht2 := Lib.hid ht2
          have hqs : q ≤ s.size := by omega
          have htl : t.length = s.size - q := by rw [← ht2, List.length_drop, bl_len]
          have hdt := digN_le t
          have hqi : (D : Int) + 1 = (q : Int) := by omega
          have hdt2 : digN t + q ≤ s.size := by omega
          clear hcv ht2 ht htl hdt
          go_upto_block 2 with (fail)
          clear hqi hq
          go_cut [5, 8, 9] (fun iv fv pv w1 => ∃ i f p : Nat, iv = .int .i64 i ∧ fv = .int .u64 f ∧ pv = .int .u64 p ∧ i ≤ s.size ∧ Hid (i = q + digN t) ∧ Hid (f = val (digs t)) ∧ Hid (p = 10 ^ digN t) ∧ digN t ≤ 12 ∧ w1 = wc)
          case first =>
            go_wp2_with fail
            go_loop [5, 8, 9] (fun iv fv pv => ∃ k f p : Nat, k ≤ digN t ∧ k ≤ 12 ∧ iv = .int .i64 (q + k : Nat) ∧ fv = .int .u64 f ∧ pv = .int .u64 p ∧ f = val (t.take k) ∧ p = 10 ^ k) (fun iv _ _ => s.size - (intOf iv).toNat)
            case atStart => exact ⟨0, 0, 1, Nat.zero_le _, Nat.zero_le _, rfl, rfl, rfl, rfl, rfl⟩
            case round =>
              obtain ⟨k, f, p, hk, hk12, rfl, rfl, rfl, hf, hp⟩ := hrel
              have hfl : f < 1000000000000 := by rw [hf]; exact small' t k hk hk12
              have hpl : p ≤ 1000000000000 := by rw [hp]; exact Nat.pow_le_pow_right (by omega) hk12
              have Hf := Lib.hid hf
              have Hp := Lib.hid hp
              clear hf hp
              have hsub : ((q + k : Nat) : Int) - (q : Int) = (k : Int) := by omega
              by_cases hlt : k < digN t
              · have hks : q + k < s.size := by omega
                obtain ⟨hk2, hd⟩ := dig_at _ k hlt
                have hat : t[k] = s[q + k] := by
                  have : t[k]? = some s[q + k] := by
                    rw [← Ht2.out, List.getElem?_drop]
                    exact List.getElem?_eq_getElem (by rw [bl_len]; exact hks)
                  rw [List.getElem?_eq_getElem hk2] at this
                  injection this
                have hst := val_step t k hk2 hd
                rw [hat, isDig_iff] at hd
                rw [hat, ← Hf.out] at hst
                have Hst := Lib.hid hst
                have hd1 := hd.1
                have hd2 := hd.2
                have t71 : decide ((48 : Int) ≤ (s[q + k].toNat : Int)) = true := by simp; omega
                have t77 : decide ((s[q + k].toNat : Int) ≤ 57) = true := by simp; omega
                clear hst hd hat
                by_cases hov : 12 ≤ k
                · have t82 : decide ((12 : Int) ≤ ((q + k : Nat) : Int) - (q : Int)) = true := by simp; omega
                  have hout : PartOut s (.tuple #[.int .u64 0, .string ⟨#[]⟩, .int .i64 0]) := .inr (.inl ⟨partR_open _ (by rw [← Hv.out]; exact hv) (by rw [HD.out, Hcv.out.1]; omega), rfl⟩)
                  go_wp2
                  go_ret3
                  exact ⟨0, _, rfl, rfl, hout⟩
                · have t82 : decide ((12 : Int) ≤ ((q + k : Nat) : Int) - (q : Int)) = false := by simp; omega
                  have Hpn : Hid (p * 10 = 10 ^ (k + 1)) := by show _ = _; rw [Hp.out, Nat.pow_succ]
                  go_wp2
                  exact ⟨⟨k + 1, f * 10 + (s[q + k].toNat - 48), p * 10, by omega, by omega, by congr 1, by congr 1; omega, by congr 1, Hst.out.symm, Hpn.out⟩, by simp [intOf]; omega⟩
              · obtain rfl : k = digN t := by omega
                have hend : ∀ h : q + digN t < s.size, isDig s[q + digN t] = false := fun h => by
                  have : t[digN t]? = some s[q + digN t] := by
                    conv => lhs; rw [← Ht2.out]
                    rw [List.getElem?_drop, Ht2.out]
                    exact List.getElem?_eq_getElem (by rw [bl_len]; exact h)
                  exact dig_end' t _ this
                have Hv2 : Hid (f = val (digs t)) := by show _ = _; rw [digs_take]; exact Hf.out
                have Hp2 : Hid (p = 10 ^ digN t) := Hp
                have Hdt2 := Lib.hid hdt2
                have Hk12 := Lib.hid hk12
                clear Hf hlt hk Hp hk12 Hcv hfl hpl hsub
                generalize hE : q + digN t = E at *
                have HE := Lib.hid hE
                clear hE
                by_cases hks : E < s.size
                · have hd := hend hks
                  have hd1 : ¬ (48 ≤ s[E].toNat ∧ s[E].toNat ≤ 57) := by rw [← isDig_iff, hd]; simp
                  clear hend hd
                  rcases Nat.lt_or_ge s[E].toNat 48 with hlo | hlo
                  · have t71 : decide ((48 : Int) ≤ (s[E].toNat : Int)) = false := by simp; omega
                    clear hd1
                    go_wp2
                    go_meet
                    case rel => exact ⟨E, f, p, rfl, rfl, rfl, by have := Hdt2.out; have := HE.out; omega, rfl, Hv2, Hp2, Hk12.out, rfl⟩
                  · have t71 : decide ((48 : Int) ≤ (s[E].toNat : Int)) = true := by simp; omega
                    have t77 : decide ((s[E].toNat : Int) ≤ 57) = false := by simp; omega
                    clear hd1
                    go_wp2
                    go_meet
                    case rel => exact ⟨E, f, p, rfl, rfl, rfl, by have := Hdt2.out; have := HE.out; omega, rfl, Hv2, Hp2, Hk12.out, rfl⟩
                · clear hend
                  go_wp2
                  go_meet
                  case rel => exact ⟨E, f, p, rfl, rfl, rfl, by have := Hdt2.out; have := HE.out; omega, rfl, Hv2, Hp2, Hk12.out, rfl⟩
          case rest =>
            obtain ⟨i, f, p, rfl, rfl, rfl, hi, Hie, Hf, Hp, h12, rfl⟩ := hcut
            have hsub : (i : Int) - (q : Int) = ((digN t : Nat) : Int) := by have := Hie.out; omega
            go_wp2_with fail
            go_meet
            case rel => exact ⟨i, f, p, digN t, rfl, rfl, rfl, by first | rfl | rw [hsub], hi, h12, Hp, Hcv.out.1.symm, by show _ = _; rw [Hcv.out.2.1]; exact Hf.out, by show _ = _; rw [Hcv.out.2.2, Hie.out, ← List.drop_drop, Ht2.out], rfl⟩
      case rest =>
        obtain ⟨i, f, p, c, rfl, rfl, rfl, rfl, hi, hc, Hp, Hc, Hf, Hi, rfl⟩ := hcut
        have HpR : Hid (∀ R, partR (bl s) = R → (R = .wrong → PartOut s (.tuple #[.int .u64 0, .string ⟨#[]⟩, .int .i64 2])) ∧ (R = .opn → PartOut s (.tuple #[.int .u64 0, .string ⟨#[]⟩, .int .i64 0])) ∧ (∀ (n : Nat) (r : ByteArray), R = .fit n (bl r) → PartOut s (.tuple #[.int .u64 n, .string r, .int .i64 1]))) := by
          intro R hR
          refine ⟨fun h => .inl ⟨by rw [hR, h], rfl⟩, fun h => .inr (.inl ⟨by rw [hR, h], rfl⟩), fun n r h => .inr (.inr ⟨n, r, by rw [hR, h], rfl⟩)⟩
        have hp1 : 1 ≤ p := by rw [Hp.out]; exact Nat.pow_pos (by omega)
        have hfp : f < p := by rw [Hp.out, Hf.out, Hc.out]; exact valF_lt _
        by_cases hz : D = 0 ∧ c = 0
        · have t99 : ((D : Int) == 0) = true := by simp; omega
          have t102 : ((c : Int) == 0) = true := by simp; omega
          have hout := (HpR.out _ rfl).1 (partR_none _ (by rw [← Hv.out]; exact hv) (by rw [HD.out]; exact hz.1) (by rw [HD.out, ← Hc.out]; exact hz.2))
          clear hz
          go_wp2
          go_ret3
          exact ⟨0, _, rfl, rfl, hout⟩
        · have HE : Hid (partR (bl s) = partE v f c ((bl s).drop i)) := by
            show _ = _
            rw [partR_E (bl s) (by rw [← Hv.out]; exact hv) (by rw [HD.out, ← Hc.out]; exact hc) (by rw [HD.out, ← Hc.out]; exact hz), HD.out, ← Hv.out, ← Hf.out, ← Hc.out, ← Hi.out]
          have Hz := Lib.hid hz
          clear Hf Hi Hc Hv HD Hdot
          have hzz : (((D : Int) == 0) = true ∧ ((c : Int) == 0) = false) ∨ ((D : Int) == 0) = false := by
            by_cases h : D = 0
            · exact .inl ⟨by simp; omega, by simp; omega⟩
            · exact .inr (by simp; omega)
          clear hz
          go_upto_region 20 with (fail)
          go_cut [103] (fun b w1 => b = .bool false ∧ w1 = wc)
          case first =>
            rcases hzz with ⟨t99, t102⟩ | t99
            · go_wp2
              go_meet
              case rel => exact ⟨rfl, rfl⟩
            · go_wp2
              go_meet
              case rel => exact ⟨rfl, rfl⟩
          case rest =>
            obtain ⟨rfl, rfl⟩ := hcut
            clear hzz
            go_upto_block 4 with (fail)
            go_cut [5] (fun iv w1 => ∃ k : Nat, iv = .int .i64 k ∧ k ≤ s.size ∧ i ≤ k ∧ Hid (k = i + uN ((bl s).drop i)) ∧ w1 = wc)
            case first =>
              have hul := uN_le ((bl s).drop i)
              rw [List.length_drop, bl_len] at hul
              go_wp2_with fail
              go_loop [5] (fun iv => ∃ k : Nat, i ≤ k ∧ k ≤ i + uN ((bl s).drop i) ∧ iv = .int .i64 k) (fun iv => s.size - (intOf iv).toNat)
              case atStart => exact ⟨i, Nat.le_refl _, Nat.le_add_right _ _, rfl⟩
              case round =>
                obtain ⟨k, hik, hk, rfl⟩ := hrel
                by_cases hks : k < s.size
                · have hget : ((bl s).drop i)[k - i]? = some s[k] := by
                    rw [List.getElem?_drop, show i + (k - i) = k by omega]
                    exact List.getElem?_eq_getElem (by rw [bl_len]; exact hks)
                  by_cases hlt : k < i + uN ((bl s).drop i)
                  · have hU := uN_at ((bl s).drop i) (k - i) (by omega) _ hget
                    have h46 : ¬ s[k].toNat = 46 := fun h => by
                      rw [UInt8.toNat_inj.1 (show s[k].toNat = (46 : UInt8).toNat from h)] at hU
                      exact absurd hU (by decide)
                    have hdg : ¬ (48 ≤ s[k].toNat ∧ s[k].toNat ≤ 57) := fun h => by
                      rw [isU, (isDig_iff _).2 h] at hU
                      simp at hU
                    have t113 : ((s[k].toNat : Int) != 46) = true := by simp; omega
                    clear hget hU h46
                    rcases Nat.lt_or_ge s[k].toNat 48 with hlo | hlo
                    · have t119 : decide ((s[k].toNat : Int) < 48) = true := by simp; omega
                      clear hdg
                      go_wp2
                      exact ⟨⟨k + 1, by omega, by omega, by simp⟩, by simp [intOf]; omega⟩
                    · have t119 : decide ((s[k].toNat : Int) < 48) = false := by simp; omega
                      have t124 : decide ((57 : Int) < (s[k].toNat : Int)) = true := by simp; omega
                      clear hdg
                      go_wp2
                      exact ⟨⟨k + 1, by omega, by omega, by simp⟩, by simp [intOf]; omega⟩
                  · have hke : k = i + uN ((bl s).drop i) := by omega
                    have Hke := Lib.hid hke
                    have hU2 : isU s[k] = false := uN_end ((bl s).drop i) _ (by rw [← hget]; congr 1; omega)
                    clear hget hke
                    by_cases h46 : s[k].toNat = 46
                    · have t113 : ((s[k].toNat : Int) != 46) = false := by simp; omega
                      clear h46 hU2
                      go_wp2
                      go_meet
                      case rel => exact ⟨k, rfl, by omega, hik, Hke.out, rfl⟩
                    · have hdg : 48 ≤ s[k].toNat ∧ s[k].toNat ≤ 57 := by
                        rw [← isDig_iff]
                        unfold isU at hU2
                        have : (s[k] == 46) = false := by
                          rw [beq_eq_false_iff_ne]; intro h; exact h46 (by rw [h]; rfl)
                        rw [this] at hU2
                        simpa using hU2
                      have hd1 := hdg.1
                      have hd2 := hdg.2
                      have t113 : ((s[k].toNat : Int) != 46) = true := by simp; omega
                      have t119 : decide ((s[k].toNat : Int) < 48) = false := by simp; omega
                      have t124 : decide ((57 : Int) < (s[k].toNat : Int)) = false := by simp; omega
                      clear h46 hU2 hdg
                      go_wp2
                      go_meet
                      case rel => exact ⟨k, rfl, by omega, hik, Hke.out, rfl⟩
                · have hke : k = i + uN ((bl s).drop i) := by omega
                  have Hke := Lib.hid hke
                  have hkr : k = s.size := by omega
                  have Hkr := Lib.hid hkr
                  clear hke hkr
                  go_wp2
                  go_meet
                  case rel => exact ⟨k, rfl, Nat.le_of_eq Hkr.out, hik, Hke.out, rfl⟩
            case rest =>
              obtain ⟨k, rfl, hks, hik, Hk, rfl⟩ := hcut
              have hksi : (k : Int) ≤ (s.size : Int) := by omega
              have hiki : (i : Int) ≤ (k : Int) := by omega
              obtain ⟨un, hun⟩ : ∃ un, unitOf (bl (s.extract i k)) = un := ⟨_, rfl⟩
              have Hun : Hid (unitOf (((bl s).drop i).take (uN ((bl s).drop i))) = un) := by
                show _ = _
                rw [← hun, bl_part, Hk.out]
                congr 2; omega
              go_wp2_with fail
              refine (unit_any _ _).mono ?_
              rintro e w1 ⟨n, rfl, rfl⟩
              rw [hun]
              have hu2 : un ≤ 3600000000000 := by rw [← hun]; exact unit_le _
              have HE2 : Hid (partR (bl s) = if un = 0 ∨ top / un < v then .wrong else if f ≠ 0 ∧ un % p ≠ 0 then .opn else if top < v * un + f * (un / p) then .wrong else .fit (v * un + f * (un / p)) (bl (s.extract k s.size))) := by
                show _ = _
                rw [HE.out, bl_from', partE, Hun.out, ← Hp.out, Hk.out, List.drop_drop]
              clear HE Hun hun Hp Hk
              by_cases hu0 : un = 0
              · have t135 : ((un : Int) == 0) = true := by simp; omega
                have hout := (HpR.out _ HE2.out).1 (if_pos (.inl hu0))
                clear hu0
                go_wp2
                go_ret3
                exact ⟨_, _, rfl, rfl, hout⟩
              · have t135 : ((un : Int) == 0) = false := by simp; omega
                have hune : (un : Int) ≠ 0 := by omega
                by_cases hov : 9223372036854775808 / un < v
                · have t140 : decide ((9223372036854775808 : Int) / (un : Int) < (v : Int)) = true := by
                    rw [decide_eq_true_eq]
                    exact Int.ofNat_lt.2 hov
                  have hout := (HpR.out _ HE2.out).1 (if_pos (.inr hov))
                  clear hov hu0
                  go_wp2
                  go_ret3
                  exact ⟨_, _, rfl, rfl, hout⟩
                · have t140 : decide ((9223372036854775808 : Int) / (un : Int) < (v : Int)) = false := by
                    rw [decide_eq_false_iff_not]
                    exact fun h => hov (Int.ofNat_lt.1 h)
                  have hv3 : v ≤ 9223372036854775808 / un := Nat.le_of_not_lt hov
                  have hmul : v * un ≤ 9223372036854775808 := Nat.le_trans (Nat.mul_le_mul_right un hv3) (Nat.div_mul_le_self _ _)
                  have HE3 : Hid (partR (bl s) = if f ≠ 0 ∧ un % p ≠ 0 then .opn else if top < v * un + f * (un / p) then .wrong else .fit (v * un + f * (un / p)) (bl (s.extract k s.size))) := by
                    show _ = _
                    rw [HE2.out, if_neg (by rintro (h | h); exact hu0 h; exact hov h)]
                  have hzle : f * (un / p) ≤ 3600000000000 :=
                    Nat.le_trans (Nat.le_trans (Nat.mul_le_mul_right _ (Nat.le_of_lt hfp)) (Nat.mul_div_le _ _)) hu2
                  obtain ⟨y0, hy0⟩ : ∃ y0, v * un = y0 := ⟨_, rfl⟩
                  have hw0 : IntKind.u64.wrap ((v : Int) * (un : Int)) = (y0 : Int) := by
                    rw [← Int.natCast_mul, hy0, IntKind.wrap_u64]; omega
                  obtain ⟨x, hx⟩ : ∃ x, un / p = x := ⟨_, rfl⟩
                  have hxle : x ≤ 3600000000000 := by rw [← hx]; exact Nat.le_trans (Nat.div_le_self _ _) hu2
                  have hxi : (un : Int) / (p : Int) = (x : Int) := by rw [← hx]; rfl
                  obtain ⟨z, hz⟩ : ∃ z, f * x = z := ⟨_, rfl⟩
                  rw [hy0, hx, hz] at HE3
                  rw [hx, hz] at hzle
                  rw [hy0] at hmul
                  have hw1 : IntKind.u64.wrap ((f : Int) * (x : Int)) = (z : Int) := by
                    rw [← Int.natCast_mul, hz, IntKind.wrap_u64]; omega
                  have hw2 : IntKind.u64.wrap ((y0 : Int) + (z : Int)) = ((y0 + z : Nat) : Int) := by
                    rw [IntKind.wrap_u64]; omega
                  obtain ⟨m, hm⟩ : ∃ m, un % p = m := ⟨_, rfl⟩
                  have hmi : (un : Int) % (p : Int) = (m : Int) := by rw [← hm]; rfl
                  rw [hm] at HE3
                  have hpne : (p : Int) ≠ 0 := by omega
                  clear hov hu0 HE2 hv3 hy0 hx hm hu2 hfp
                  by_cases hf0 : f = 0
                  · have hz0 : z = 0 := by rw [← hz, hf0, Nat.zero_mul]
                    have t143 : ((f : Int) != 0) = false := by simp; omega
                    have t154 := t143
                    have HE4 : Hid (partR (bl s) = if top < y0 then .wrong else .fit y0 (bl (s.extract k s.size))) := by
                      show _ = _
                      rw [HE3.out, if_neg (fun h => h.1 hf0), hz0, Nat.add_zero]
                    clear hz hz0 hf0 HE3
                    by_cases hbig : 9223372036854775808 < y0
                    · have t163 : decide ((9223372036854775808 : Int) < (y0 : Int)) = true := by rw [decide_eq_true_eq]; exact Int.ofNat_lt.2 hbig
                      have hout := (HpR.out _ HE4.out).1 (if_pos hbig)
                      clear hbig
                      go_wp2
                      go_ret3
                      exact ⟨_, _, rfl, rfl, hout⟩
                    · have t163 : decide ((9223372036854775808 : Int) < (y0 : Int)) = false := by rw [decide_eq_false_iff_not]; exact fun h => hbig (Int.ofNat_lt.1 h)
                      have hout := (HpR.out _ HE4.out).2.2 _ _ (if_neg hbig)
                      clear hbig
                      go_wp2
                      go_quiet (fail)
                      go_wp2
                      go_ret3
                      exact ⟨n + nq, _, World.drewN_drewN .., rfl, hout⟩
                  · have t143 : ((f : Int) != 0) = true := by simp; omega
                    have t154 := t143
                    by_cases hm0 : m = 0
                    · have t148 : ((m : Int) != 0) = false := by simp; omega
                      have HE4 : Hid (partR (bl s) = if top < y0 + z then .wrong else .fit (y0 + z) (bl (s.extract k s.size))) := by
                        show _ = _
                        rw [HE3.out, if_neg (fun h => h.2 hm0)]
                      obtain ⟨y, hy⟩ : ∃ y, y0 + z = y := ⟨_, rfl⟩
                      rw [hy] at HE4 hw2
                      clear hz hy hm0 hf0 HE3
                      by_cases hbig : 9223372036854775808 < y
                      · have t163 : decide ((9223372036854775808 : Int) < (y : Int)) = true := by rw [decide_eq_true_eq]; exact Int.ofNat_lt.2 hbig
                        have hout := (HpR.out _ HE4.out).1 (if_pos hbig)
                        clear hbig
                        go_wp2
                        go_ret3
                        exact ⟨_, _, rfl, rfl, hout⟩
                      · have t163 : decide ((9223372036854775808 : Int) < (y : Int)) = false := by rw [decide_eq_false_iff_not]; exact fun h => hbig (Int.ofNat_lt.1 h)
                        have hout := (HpR.out _ HE4.out).2.2 _ _ (if_neg hbig)
                        clear hbig
                        go_wp2
                        go_quiet (fail)
                        go_wp2
                        go_ret3
                        exact ⟨n + nq, _, World.drewN_drewN .., rfl, hout⟩
                    · have t148 : ((m : Int) != 0) = true := by simp; omega
                      have hout := (HpR.out _ HE3.out).2.1 (if_pos ⟨hf0, hm0⟩)
                      clear hm0 hf0 HE3
                      go_wp2
                      go_ret3
                      exact ⟨_, _, rfl, rfl, hout⟩
end Go.Proofs.YtjkmidohcidkiaaDoor.Pt
