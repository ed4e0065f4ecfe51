/- Plain: the reference's words for a duration (spec.Numeral, spec.pointed29) write what the library writes. -/
import Derived.Test.YtjkmidohcidkiaaDoorDigits
import Derived.Test.YtjkmidohcidkiaaDoorString
namespace Go.Proofs.YtjkmidohcidkiaaDoor.Fmt
open Go.RowKit Go.Proofs.YtjkmidohcidkiaaDoorW.PrintWords Go.Proofs.YtjkmidohcidkiaaDoor.PFnSpans

theorem sn_append (a b : List Int) : strOfNums a ++ strOfNums b = strOfNums (a ++ b) := by
  apply ByteArray.ext
  simp [strOfNums]

theorem u64_id (n : Nat) (h : n < 18446744073709551616) : IntKind.u64.wrap (n : Int) = (n : Int) := by rw [IntKind.wrap_u64]; omega

theorem up {α : Type} (F : Nat → Option α) (hm : ∀ k, LeO (F k) (F (k + 1))) (k : Nat) (r : α) (h : F k = some r) : ∀ m, F (k + m) = some r
  | 0 => h
  | m + 1 => hm _ _ (up F hm k r h m)

theorem num_ev (n : Nat) (hn : n < 18446744073709551616) : ∃ k, ∀ m, spec_Numeral.f (k + m) (n : Int) = some (strOfNums (dec n)) := by
  induction n using Nat.strongRecOn with
  | _ n ih =>
    by_cases h : n < 10
    · refine ⟨1, up (fun k => spec_Numeral.f k (n : Int)) (fun k => spec_Numeral.mono _ k) 1 _ ?_⟩
      show spec_Numeral.f 1 (n : Int) = _
      rw [spec_Numeral.f, if_pos (by omega)]
      have e : IntKind.u64.wrap (48 + (n : Int)) % 256 = 48 + (n : Int) := by rw [IntKind.wrap_u64]; omega
      have ed : dec n = [48 + (n : Int)] := by
        unfold dec
        by_cases h0 : n = 0
        · rw [if_pos h0, h0]; rfl
        · rw [if_neg h0, decD_pos n (by omega), show n / 10 = 0 by omega, decD_zero, show n % 10 = n by omega]; rfl
      rw [e, ed]
    · obtain ⟨k, hk⟩ := ih (n / 10) (by omega) (by omega)
      refine ⟨k + 1, up (fun k => spec_Numeral.f k (n : Int)) (fun k => spec_Numeral.mono _ k) (k + 1) _ ?_⟩
      show spec_Numeral.f (k + 1) (n : Int) = _
      rw [spec_Numeral.f, if_neg (by omega)]
      have e1 : IntKind.u64.wrap (Int.tdiv (n : Int) 10) = ((n / 10 : Nat) : Int) := by
        rw [show Int.tdiv (n : Int) 10 = ((n / 10 : Nat) : Int) from Int.ofNat_tdiv n 10, u64_id _ (by omega)]
      have e2 : IntKind.u64.wrap (48 + Int.tmod (n : Int) 10) % 256 = 48 + ((n % 10 : Nat) : Int) := by
        rw [show Int.tmod (n : Int) 10 = ((n % 10 : Nat) : Int) from Int.ofNat_tmod n 10, IntKind.wrap_u64]; omega
      have ed : dec n = dec (n / 10) ++ [48 + ((n % 10 : Nat) : Int)] := by
        unfold dec
        rw [if_neg (by omega), if_neg (by omega), decD_pos n (by omega)]
      have hl := dec_len_le 20 (n / 10) (by omega) (by omega)
      have hk0 := hk 0
      rw [Nat.add_zero] at hk0
      rw [e1, hk0]
      simp only [Option.bind_some]
      rw [e2, if_pos (by rw [strOfNums_size, strOfNums_size]; simp; omega), sn_append, ← ed]

theorem low_mod (i : Nat) : ∀ u v : Nat, u % 10 ^ i = v % 10 ^ i → low i u = low i v := by
  induction i with
  | zero => intro u v _; rfl
  | succ i ih =>
    intro u v h
    have h1 : u % 10 ^ i = v % 10 ^ i := by
      have hd : 10 ^ i ∣ 10 ^ (i + 1) := ⟨10, by rw [Nat.pow_succ]⟩
      rw [← Nat.mod_mod_of_dvd u hd, h, Nat.mod_mod_of_dvd v hd]
    have h2 : u / 10 ^ i % 10 = v / 10 ^ i % 10 := by
      rw [← Nat.mod_mul_right_div_self, ← Nat.mod_mul_right_div_self, ← Nat.pow_succ, h]
    unfold low
    rw [h, h2, ih u v h1]
theorem frac_mod (p u v : Nat) (h : u % 10 ^ p = v % 10 ^ p) : frac p u = frac p v := by
  unfold frac
  rw [h, low_mod p u v h]

theorem loop_ev (i : Nat) : ∀ (v : Nat) (pre : List Int), i ≤ 12 → v < 10 ^ i → pre.length + i ≤ 200 →
    ∃ k, ∀ m, spec_pointed29.l0 (k + m) ((10 ^ i : Nat) : Int) (strOfNums pre) (v : Int) = some (strOfNums (pre ++ low i v)) := by
  induction i with
  | zero =>
    intro v pre _ hv _
    have h0 : v = 0 := by simp at hv; exact hv
    subst h0
    exact ⟨1, fun m => by rw [show 1 + m = m + 1 by omega, spec_pointed29.l0, if_neg (by omega)]; simp [low]⟩
  | succ i ih =>
    intro v pre hi hv hp
    by_cases h0 : v = 0
    · subst h0
      exact ⟨1, fun m => by rw [show 1 + m = m + 1 by omega, spec_pointed29.l0, if_neg (by omega)]; simp [low]⟩
    · have hpi : 10 ^ i ≤ 1000000000000 := Nat.pow_le_pow_right (by omega) (show i ≤ 12 by omega)
      have hp0 : 0 < 10 ^ i := Nat.pow_pos (by omega)
      have hq : v / 10 ^ i < 10 := by
        rw [Nat.div_lt_iff_lt_mul hp0, Nat.mul_comm, ← Nat.pow_succ]; exact hv
      have hdq : dec (v / 10 ^ i) = [48 + ((v / 10 ^ i : Nat) : Int)] := by
        generalize v / 10 ^ i = n at hq
        unfold dec
        by_cases h0 : n = 0
        · rw [if_pos h0, h0]; rfl
        · rw [if_neg h0, decD_pos n (by omega), show n / 10 = 0 by omega, decD_zero, show n % 10 = n by omega]; rfl
      have hv2 : v ≤ 10000000000000 := by
        have : 10 ^ (i + 1) = 10 ^ i * 10 := Nat.pow_succ ..
        omega
      obtain ⟨k1, hk1⟩ := num_ev (v / 10 ^ i) (by omega)
      obtain ⟨k2, hk2⟩ := ih (v % 10 ^ i) (pre ++ [48 + ((v / 10 ^ i : Nat) : Int)]) (by omega) (Nat.mod_lt _ hp0) (by simp; omega)
      have e1 : IntKind.u64.wrap (Int.tdiv ((10 ^ (i + 1) : Nat) : Int) 10) = ((10 ^ i : Nat) : Int) := by
        rw [show Int.tdiv ((10 ^ (i + 1) : Nat) : Int) 10 = ((10 ^ (i + 1) / 10 : Nat) : Int) from Int.ofNat_tdiv _ 10, Nat.pow_succ, Nat.mul_div_cancel _ (by omega), u64_id _ (by omega)]
      have e2 : IntKind.u64.wrap (Int.tdiv (v : Int) ((10 ^ i : Nat) : Int)) = ((v / 10 ^ i : Nat) : Int) := by
        rw [show Int.tdiv (v : Int) ((10 ^ i : Nat) : Int) = ((v / 10 ^ i : Nat) : Int) from Int.ofNat_tdiv _ _, u64_id _ (by omega)]
      have e3 : Int.tmod (v : Int) ((10 ^ i : Nat) : Int) = ((v % 10 ^ i : Nat) : Int) := Int.ofNat_tmod _ _
      have elow : low (i + 1) v = (48 + ((v / 10 ^ i : Nat) : Int)) :: low i (v % 10 ^ i) := by
        have hl : low i (v % 10 ^ i) = low i v := low_mod i _ _ (Nat.mod_mod _ _)
        rw [low, if_neg (by rw [Nat.mod_eq_of_lt hv]; exact h0), Nat.mod_eq_of_lt hq, hl]
      refine ⟨k1 + k2 + 1, fun m => ?_⟩
      rw [show k1 + k2 + 1 + m = (k1 + k2 + m) + 1 by omega, spec_pointed29.l0, if_pos (by omega), e1, if_neg (by omega), e2, show k1 + k2 + m = k1 + (k2 + m) by omega, hk1 (k2 + m), e3]
      simp only [Option.bind_some]
      rw [if_pos (by rw [strOfNums_size, strOfNums_size, hdq]; simp; omega), sn_append, hdq, show k1 + (k2 + m) = k2 + (k1 + m) by omega, hk2 (k1 + m), elow]
      simp

theorem pointed_ev (p v : Nat) (hp : p ≤ 12) (hv : v < 18446744073709551616) : ∃ k, spec_pointed29.f k (v : Int) ((10 ^ p : Nat) : Int) = some (strOfNums (dec (v / 10 ^ p) ++ frac p v)) := by
  have hp0 : 0 < 10 ^ p := Nat.pow_pos (by omega)
  have hpi : 10 ^ p ≤ 1000000000000 := Nat.pow_le_pow_right (by omega) hp
  have hle : v / 10 ^ p ≤ v := Nat.div_le_self _ _
  obtain ⟨k1, hk1⟩ := num_ev (v / 10 ^ p) (by omega)
  have hl := dec_len_le 20 (v / 10 ^ p) (by omega) (by omega)
  obtain ⟨k2, hk2⟩ := loop_ev p (v % 10 ^ p) (dec (v / 10 ^ p) ++ [46]) hp (Nat.mod_lt _ hp0) (by simp; omega)
  have e2 : IntKind.u64.wrap (Int.tdiv (v : Int) ((10 ^ p : Nat) : Int)) = ((v / 10 ^ p : Nat) : Int) := by
    rw [show Int.tdiv (v : Int) ((10 ^ p : Nat) : Int) = ((v / 10 ^ p : Nat) : Int) from Int.ofNat_tdiv _ _, u64_id _ (by omega)]
  have e3 : Int.tmod (v : Int) ((10 ^ p : Nat) : Int) = ((v % 10 ^ p : Nat) : Int) := Int.ofNat_tmod _ _
  refine ⟨k1 + k2, ?_⟩
  rw [spec_pointed29.f, if_neg (by omega), e2, hk1 k2, e3]
  simp only [Option.bind_some]
  unfold frac
  by_cases h0 : v % 10 ^ p = 0
  · rw [if_pos (by omega), if_pos h0, List.append_nil]
  · rw [if_neg (by omega), if_neg h0, if_pos (by rw [strOfNums_size]; omega), show (⟨#[46]⟩ : ByteArray) = strOfNums [46] from rfl, sn_append, Nat.add_comm k1 k2, hk2 k1, low_mod p _ v (Nat.mod_mod _ _)]
    simp

theorem num_any (n : Nat) (hn : n < 18446744073709551616) (w : World) : Calls Tryd.prog 21 #[.int .u64 (n : Int)] w fun e w' => e = .returned (.string (strOfNums (dec n))) ∧ Below w.heap.size w w' := by
  obtain ⟨k, hk⟩ := num_ev n hn
  exact spec_Numeral.calls (k + 0) _ _ w (hk 0)
theorem pointed_any (p v q : Nat) (hq : 10 ^ p = q) (hp : p ≤ 12) (hv : v < 18446744073709551616) (w : World) : Calls Tryd.prog 22 #[.int .u64 (v : Int), .int .u64 (q : Int)] w fun e w' => e = .returned (.string (strOfNums (dec (v / q) ++ frac p v))) ∧ Below w.heap.size w w' := by
  subst hq
  obtain ⟨k, hk⟩ := pointed_ev p v hp hv
  exact spec_pointed29.calls k _ _ _ w hk
theorem pointed_len (p v q : Nat) (hp : p ≤ 12) (hv : v < 18446744073709551616) : (strOfNums (dec (v / q) ++ frac p v)).size ≤ 40 := by
  have h1 := dec_len_le 20 (v / q) (by omega) (by have := Nat.div_le_self v q; omega)
  have h2 := frac_len p v
  rw [strOfNums_size, List.length_append]; omega
end Go.Proofs.YtjkmidohcidkiaaDoor.Fmt
