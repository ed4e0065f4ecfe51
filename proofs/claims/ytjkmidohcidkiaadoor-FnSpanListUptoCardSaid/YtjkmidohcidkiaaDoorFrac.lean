/- The walk of time.leadingFraction. -/
import Derived.Test.YtjkmidohcidkiaaDoorLead
import Derived.Test.YtjkmidohcidkiaaDoorIeee
namespace Go.Proofs.YtjkmidohcidkiaaDoor.Sp
open Go.RowKit Go.Proofs.YtjkmidohcidkiaaDoorW.PrintWords

def LFEnd (s : ByteArray) (w : World) (e : Ending) (w' : World) : Prop :=
  ∃ x b : Nat, x ≤ 9223372036854775808 ∧ w = w' ∧ e = .returned (.tuple #[.int .u64 x, .float .f64 b, .string (s.extract (digN (bl s)) s.size)]) ∧
    (digN (bl s) ≤ 12 → x = val (digs (bl s)) ∧ b = Fl.p10 (digN (bl s)))

theorem foldl_lt (l : List UInt8) : ∀ a : Nat, (∀ c ∈ l, isDig c = true) → l.foldl (fun a c => a * 10 + (c.toNat - 48)) a < (a + 1) * 10 ^ l.length := by
  induction l with
  | nil => intro a _; simp
  | cons c l ih =>
    intro a h
    have hc := (isDig_iff c).1 (h c (by simp))
    have h1 := ih (a * 10 + (c.toNat - 48)) (fun d hd => h d (by simp [hd]))
    have h2 : (a * 10 + (c.toNat - 48) + 1) * 10 ^ l.length ≤ ((a + 1) * 10) * 10 ^ l.length := Nat.mul_le_mul_right _ (by omega)
    rw [List.foldl_cons, List.length_cons, Nat.pow_succ, Nat.mul_comm (10 ^ l.length) 10, ← Nat.mul_assoc]
    omega
theorem val_lt (l : List UInt8) (h : ∀ c ∈ l, isDig c = true) : val l < 10 ^ l.length := by
  have := foldl_lt l 0 h
  simpa [val] using this
theorem digs_mem (l : List UInt8) (c : UInt8) (h : c ∈ digs l) : isDig c = true := by
  induction l with
  | nil => simp [digs] at h
  | cons d l ih =>
    unfold digs at h
    rw [List.takeWhile_cons] at h
    split at h
    · rcases List.mem_cons.1 h with rfl | h
      · assumption
      · exact ih h
    · simp at h

structure LFInv (s : ByteArray) (k : Nat) (x b : Nat) (over : Bool) : Prop where
  le : k ≤ digN (bl s)
  xle : x ≤ 9223372036854775808
  okb : Fl.ok b
  near : k ≤ 12 → over = false ∧ x = val ((bl s).take k) ∧ b = Fl.p10 k

theorem LFInv.skip {s : ByteArray} {k x b : Nat} (h : LFInv s k x b true) (hk : k < digN (bl s)) : LFInv s (k + 1) x b true :=
  ⟨hk, h.xle, h.okb, fun hn => by have := (h.near (by omega)).1; cases this⟩
theorem small (s : ByteArray) (k : Nat) (hk : k ≤ digN (bl s)) (hn : k ≤ 12) : val ((bl s).take k) < 1000000000000 := by
  have h := val_lt ((bl s).take k) (fun c hc => by
    have : c ∈ digs (bl s) := by rw [digs_take]; exact List.mem_of_mem_take (by
      have e : (bl s).take k = ((bl s).take (digN (bl s))).take k := by rw [List.take_take, Nat.min_eq_left hk]
      rw [e] at hc
      exact hc)
    exact digs_mem _ _ this)
  have hl : ((bl s).take k).length ≤ 12 := by simp; omega
  exact Nat.lt_of_lt_of_le h (Nat.pow_le_pow_right (by omega) hl)
theorem LFInv.over {s : ByteArray} {k x b : Nat} {o : Bool} (h : LFInv s k x b o) (hk : k < digN (bl s)) (hx : 922337203685477580 < x) : LFInv s (k + 1) x b true :=
  ⟨hk, h.xle, h.okb, fun hn => by have h1 := h.near (by omega); have h2 := small s k h.le (by omega); omega⟩
theorem LFInv.over2 {s : ByteArray} {k x b : Nat} {o : Bool} (h : LFInv s k x b o) (hk : k < digN (bl s)) (hx : 9223372036854775808 < x * 10 + ((bl s)[k]'(Nat.lt_of_lt_of_le hk (digN_le _))).toNat - 48) : LFInv s (k + 1) x b true :=
  ⟨hk, h.xle, h.okb, fun hn => by
    have h1 := h.near (by omega); have h2 := small s k h.le (by omega)
    have := ((bl s)[k]'(Nat.lt_of_lt_of_le hk (digN_le _))).toNat_lt
    omega⟩
theorem LFInv.go {s : ByteArray} {k x b : Nat} {o : Bool} (h : LFInv s k x b o) (hk : k < digN (bl s)) (r : Nat) (hr : floatBits .mul .f64 b 4621819117588971520 = some r) (hok : Fl.ok r)
    (hx : x * 10 + ((bl s)[k]'(Nat.lt_of_lt_of_le hk (digN_le _))).toNat - 48 ≤ 9223372036854775808) : LFInv s (k + 1) (x * 10 + ((bl s)[k]'(Nat.lt_of_lt_of_le hk (digN_le _))).toNat - 48) r o := by
  refine ⟨hk, hx, hok, fun hn => ?_⟩
  obtain ⟨h1, h2, h3⟩ := h.near (by omega)
  obtain ⟨hk2, hd⟩ := dig_at _ k hk
  have hd' := (isDig_iff _).1 hd
  refine ⟨h1, ?_, ?_⟩
  · rw [val_step _ _ hk2 hd, ← h2]; omega
  · rw [h3, Fl.p10_step] at hr
    exact (Option.some.inj hr).symm

set_option maxRecDepth 100000 in
set_option maxHeartbeats 800000 in
theorem leadingFraction_any (s : ByteArray) (w : World) (hs : s.size ≤ 9223372036854775807) : Calls Tryd.prog 43 #[.string s] w fun e w' => ∃ n, LFEnd s (w.drewN n) e w' := by
  go_enter Tryd.func43, Tryd.ntmps43
  go_wp2_with fail
  go_loop [2, 3, 5, 6, 8] (fun x b i o _ => ∃ (k xn bn : Nat) (over : Bool), x = .int .u64 xn ∧ b = .float .f64 bn ∧ i = .int .i64 k ∧ o = .bool over ∧ LFInv s k xn bn over) (fun _ _ i _ _ => s.size - (intOf i).toNat)
  case atStart => exact ⟨0, 0, _, false, rfl, rfl, rfl, rfl, Nat.zero_le _, by omega, Fl.p10_ok 0, fun _ => ⟨rfl, rfl, rfl⟩⟩
  case round =>
    obtain ⟨k, x, b, over, rfl, rfl, rfl, rfl, hi⟩ := hrel
    have hdl := digN_le (bl s)
    rw [bl_len] at hdl
    have hle := hi.le
    by_cases hlt : k < digN (bl s)
    · obtain ⟨hk2, hd⟩ := dig_at _ k hlt
      have hks : k < s.size := by omega
      rw [show (bl s)[k] = s[k] from rfl, isDig_iff] at hd
      have hd1 : ¬ (s[k].toNat : Int) < 48 := by omega
      have hd2 : ¬ (57 : Int) < s[k].toNat := by omega
      have hxl := hi.xle
      cases over
      · by_cases h1 : 922337203685477580 < x
        · have t1 : decide ((922337203685477580 : Int) < (x : Int)) = true := by simp; omega
          have hst := hi.over hlt h1
          clear h1
          go_wp2
          exact ⟨⟨k + 1, x, b, true, rfl, rfl, by simp, rfl, hst⟩, by simp [intOf]; omega⟩
        · have t1 : decide ((922337203685477580 : Int) < (x : Int)) = false := by simp; omega
          by_cases h2 : 9223372036854775808 < x * 10 + s[k].toNat - 48
          · have t2 : decide ((9223372036854775808 : Int) < (x : Int) * 10 + (s[k].toNat : Int) - 48) = true := by simp; omega
            have hst := hi.over2 hlt h2
            clear h2
            go_wp2
            exact ⟨⟨k + 1, x, b, true, rfl, rfl, by simp, rfl, hst⟩, by simp [intOf]; omega⟩
          · have t2 : decide ((9223372036854775808 : Int) < (x : Int) * 10 + (s[k].toNat : Int) - 48) = false := by simp; omega
            obtain ⟨r, hfl, hok⟩ := Fl.mul_ok b hi.okb
            have hst := hi.go hlt r hfl hok (Nat.le_of_not_lt h2)
            have hrun := run_float_arith (P := Tryd.prog) w .mul 93 .f64 b 4621819117588971520 r hfl
            have Hfl := Lib.hid hfl
            have Hcast : Hid ((x : Int) * 10 + (s[k].toNat : Int) - 48 = ((x * 10 + s[k].toNat - 48 : Nat) : Int)) := by show _ = _; omega
            clear hfl h2 hok
            go_wp2
            exact ⟨⟨k + 1, _, r, false, by rw [Hcast.out]; rfl, rfl, by simp, rfl, hst⟩, by simp [intOf]; omega⟩
      · have hst := hi.skip hlt
        go_wp2
        exact ⟨⟨k + 1, x, b, true, rfl, rfl, by simp, rfl, hst⟩, by simp [intOf]; omega⟩
    · obtain rfl : k = digN (bl s) := by omega
      have hend : ∀ h : digN (bl s) < s.size, isDig s[digN (bl s)] = false := fun h => dig_end (bl s) (by rw [bl_len]; exact h)
      have hnear := hi.near
      have hxle := hi.xle
      have fin : ∀ n : Nat, ∃ m, LFEnd s (w.drewN m) (.returned (.tuple #[.int .u64 x, .float .f64 b, .string (s.extract (digN (bl s)) s.size)])) (w.drewN n) :=
        fun n => ⟨n, x, b, hxle, rfl, rfl, fun hn => by have := hnear hn; rw [digs_take]; exact this.2⟩
      have Hfin := Lib.hid fin
      clear fin hnear hi
      generalize hkk : digN (bl s) = k at hdl hend Hfin ⊢
      clear hkk hlt hle
      by_cases hks : k < s.size
      · have hd := hend hks
        have hd1 : ¬ (48 ≤ s[k].toNat ∧ s[k].toNat ≤ 57) := by rw [← isDig_iff, hd]; simp
        clear hend hd
        by_cases hlo : s[k].toNat < 48
        · have hd2 : (s[k].toNat : Int) < 48 := by omega
          go_wp2_with fail
          go_quiet (fail)
          go_wp2
          go_ret3
          exact Hfin.out _
        · have hd2 : ¬ (s[k].toNat : Int) < 48 := by omega
          have hd3 : (57 : Int) < s[k].toNat := by omega
          go_wp2_with fail
          go_quiet (fail)
          go_wp2
          go_ret3
          exact Hfin.out _
      · obtain rfl : k = s.size := by omega
        clear hend
        go_wp2_with fail
        go_quiet (fail)
        go_wp2
        go_ret3
        have he : s.extract s.size s.size = ByteArray.empty := by simp
        have hf := Hfin.out
        rw [he] at hf
        exact hf _
end Go.Proofs.YtjkmidohcidkiaaDoor.Sp
