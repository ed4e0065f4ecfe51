/- strconv.ParseInt at base 0 and any text of at most 1000 bytes: what it answers hangs on the text alone. -/
import Derived.Test.YtcfknhboicomjaaGreatDoorPUdec
import Derived.Test.YtcfknhboicomjaaGreatDoorPUbin
import Derived.Test.YtcfknhboicomjaaGreatDoorPUoct
import Derived.Test.YtcfknhboicomjaaGreatDoorPUhex
import Derived.Test.YtcfknhboicomjaaGreatDoorPUshort
import Derived.Test.YtcfknhboicomjaaGreatDoorPUold
import Derived.Test.YtcfknhboicomjaaGreatDoorTot
import Derived.Test.YtcfknhboicomjaaGreatDoorErrs
import Derived.Lib.IfaceNeq
namespace Go.Proofs.YtcfknhboicomjaaGreatDoor.Ca
open Go.RowKit PFnCastMapInt64s Go.Proofs.YtcfknhboicomjaaGreatDoorW.PrintWords

theorem below_drawn {w w' : World} (h : Drawn0 w w') : Below w.heap.size w w' := by
  obtain ⟨n, rfl⟩ := h
  exact ⟨rfl, rfl, rfl, Nat.le_refl _, fun _ _ => rfl⟩
theorem oks_any (s : ByteArray) (hs : s.size ≤ 1000) : ∃ okS, OkS s okS := by
  obtain ⟨r, hr⟩ := uok_tot s hs
  exact ⟨r, fun W => (strconv_underscoreOK.calls 5000 s r W hr).mono fun e w' ⟨he, hd⟩ => ⟨he, below_drawn hd⟩⟩

theorem puRun_lt (b cut : Nat) : ∀ (l : List UInt8) (a : Nat) (u : Bool) (n : Nat) (u' : Bool), a < 18446744073709551616 → puRun b cut a u l = .ok (n, u') → n < 18446744073709551616
  | [], a, u, n, u', ha, h => by
    rw [puRun] at h
    injection h with h
    injection h with h1 h2
    omega
  | c :: r, a, u, n, u', ha, h => by
    rw [puRun] at h
    split at h
    · exact puRun_lt b cut r a true n u' ha h
    · cases hd : digW c with
      | none => rw [hd] at h; cases h
      | some d =>
        rw [hd] at h
        dsimp only at h
        split at h
        · cases h
        · split at h
          · cases h
          · split at h
            · cases h
            · exact puRun_lt b cut r _ u n u' (by omega) h
theorem puEnd_lt (okS : Bool) (b cut : Nat) (l : List UInt8) (n : Nat) (h : puEnd okS (puRun b cut 0 false l) = .ok n) : n < 18446744073709551616 := by
  cases hr : puRun b cut 0 false l with
  | ok p =>
    obtain ⟨a, u⟩ := p
    rw [hr] at h
    unfold puEnd at h
    dsimp only at h
    split at h
    · cases h
    · injection h with h
      have := puRun_lt b cut l 0 false a u (by omega) hr
      omega
  | bad => rw [hr] at h; cases h
  | range => rw [hr] at h; cases h

/-- What strconv.ParseUint answers at base 0. -/
def PUAt (s : ByteArray) (R : PEnd Nat) : Prop := ∀ w, Calls Tryz.prog 90 #[.string s, .int .i64 0, .int .i64 0] w fun e w' => e = .returned (uTup R) ∧ Below w.heap.size w w'

set_option maxRecDepth 100000 in
theorem pu_empty : PUAt ⟨#[]⟩ .bad := fun w => by
  go_enter Tryz.func90, Tryz.ntmps90
  go_wp2
  go_ret2
  exact ⟨rfl, Below.refl _ _⟩

theorem parseUint_any (s : ByteArray) (hs : s.size ≤ 1000) : ∃ R : PEnd Nat, (∀ n, R = .ok n → n < 18446744073709551616) ∧ PUAt s R := by
  obtain ⟨okS, hO⟩ := oks_any s hs
  by_cases h0 : 0 < s.size
  · have hx : ∀ k, (s.extract k s.size).size ≤ 1000 := fun k => by simp; omega
    by_cases hz : s[0].toNat = 48
    · by_cases h3 : 3 ≤ s.size
      · by_cases h98 : low s[1] = 98
        · exact ⟨_, fun n h => puEnd_lt _ _ _ _ n h, fun w => pu_bin s _ okS hO (hx 2) h0 h3 hz h98 rfl w⟩
        · by_cases h111 : low s[1] = 111
          · exact ⟨_, fun n h => puEnd_lt _ _ _ _ n h, fun w => pu_oct s _ okS hO (hx 2) h0 h3 hz h111 rfl w⟩
          · by_cases h120 : low s[1] = 120
            · exact ⟨_, fun n h => puEnd_lt _ _ _ _ n h, fun w => pu_hex s _ okS hO (hx 2) h0 h3 hz h120 rfl w⟩
            · exact ⟨_, fun n h => puEnd_lt _ _ _ _ n h, fun w => pu_old s _ okS hO (hx 1) h0 h3 hz ⟨h98, h111, h120⟩ rfl w⟩
      · exact ⟨_, fun n h => puEnd_lt _ _ _ _ n h, fun w => pu_short s _ okS hO (hx 1) h0 (by omega) hz rfl w⟩
    · exact ⟨_, fun n h => puEnd_lt _ _ _ _ n h, fun w => pu_dec s _ okS hO hs h0 hz rfl w⟩
  · have he : s = ⟨#[]⟩ := ByteArray.ext (Array.eq_empty_of_size_eq_zero (by have : s.size = s.data.size := rfl; omega))
    subst he
    exact ⟨.bad, fun n h => (by cases h), pu_empty⟩

/-- (v, nil), or (v, an error of the inner package). -/
def iTup (v : Int) : Nat → Value
  | 0 => .tuple #[.int .i64 v, .nilIface]
  | k => .tuple #[.int .i64 v, .iface 155 (.int .i64 k)]

set_option maxHeartbeats 6400000 in
set_option maxRecDepth 100000 in
theorem pi_plus (s t : ByteArray) (R : PEnd Nat) (hR : ∀ n, R = .ok n → n < 18446744073709551616) (hU : PUAt t R) (h0 : 0 < s.size) (hz : s[0].toNat = 43) (ht : t = s.extract 1 s.size) :
    ∃ (v : Int) (k : Nat), k ≤ 2 ∧ -9223372036854775808 ≤ v ∧ v ≤ 9223372036854775807 ∧ ∀ w, Calls Tryz.prog 79 #[.string s, .int .i64 0, .int .i64 0] w fun e w' => e = .returned (iTup v k) ∧ Below w.heap.size w w' := by
  have hemp := nonempty h0
  have hq2 : ∀ W, (binOp .neq 49 (.iface 155 (.int .i64 2)) (.iface 155 (.int .i64 1))).run Tryz.prog W = .ok (.bool true) W := fun W => Lib.run_neq_iface_int W 2 1 Tryz.underlying49 (by kernel_rfl) Tryz.underlying155
  have hq1 : ∀ W, (binOp .neq 49 (.iface 155 (.int .i64 1)) (.iface 155 (.int .i64 1))).run Tryz.prog W = .ok (.bool false) W := fun W => Lib.run_neq_iface_int W 1 1 Tryz.underlying49 (by kernel_rfl) Tryz.underlying155
  have hmin : wrap64 (-wrap64 9223372036854775808) = -9223372036854775808 := by unfold wrap64; omega
  have hz0 : (s[0].toNat : Int) = 43 := by omega
  have hsl : ∀ W, (Instr.slice 9 (.string s) (some (.int .i64 1)) none none).run Tryz.prog W = .ok (.string t) W := fun W => by
    rw [run_slice_string_from_if W 9 s .i64 _ Tryz.underlying9, if_pos ⟨by omega, by omega⟩, ht]
    rfl
  clear ht
  unfold PUAt at hU
  cases R with
  | bad =>
    simp only [uTup] at hU
    refine ⟨0, 2, by omega, by omega, by omega, fun w => ?_⟩
    go_enter Tryz.func79, Tryz.ntmps79
    go_wp2_with (go_at_call 90; refine (hU _).mono ?_; rintro e w1 ⟨rfl, hb⟩)
    go_wp2
    go_ret2
    exact ⟨rfl, hb⟩
  | range =>
    simp only [uTup] at hU
    refine ⟨9223372036854775807, 1, by omega, by omega, by omega, fun w => ?_⟩
    go_enter Tryz.func79, Tryz.ntmps79
    go_wp2_with (go_at_call 90; refine (hU _).mono ?_; rintro e w1 ⟨rfl, hb⟩)
    go_wp2
    go_ret2
    exact ⟨by first | rfl | (simp only [hmin]; rfl), hb⟩
  | ok u =>
    have hu := hR u rfl
    simp only [uTup] at hU
    obtain ⟨a, ha⟩ : ∃ a : Int, a = (u : Int) := ⟨_, rfl⟩
    rw [← ha] at hU
    have a0 : 0 ≤ a := by omega
    have a1 : a < 18446744073709551616 := by omega
    clear ha hu hR
    by_cases hout : 9223372036854775808 ≤ a
    · refine ⟨9223372036854775807, 1, by omega, by omega, by omega, fun w => ?_⟩
      go_enter Tryz.func79, Tryz.ntmps79
      go_wp2_with (go_at_call 90; refine (hU _).mono ?_; rintro e w1 ⟨rfl, hb⟩)
      go_wp2
      go_ret2
      exact ⟨by first | rfl | (simp only [hmin]; rfl), hb⟩
    · have iin : a < 9223372036854775808 := by omega
      have hw : wrap64 a = a := by unfold wrap64; omega
      refine ⟨a, 0, by omega, by omega, by omega, fun w => ?_⟩
      go_enter Tryz.func79, Tryz.ntmps79
      go_wp2_with (go_at_call 90; refine (hU _).mono ?_; rintro e w1 ⟨rfl, hb⟩)
      go_wp2
      go_ret2
      exact ⟨rfl, hb⟩

set_option maxHeartbeats 6400000 in
set_option maxRecDepth 100000 in
theorem pi_minus (s t : ByteArray) (R : PEnd Nat) (hR : ∀ n, R = .ok n → n < 18446744073709551616) (hU : PUAt t R) (h0 : 0 < s.size) (hz : s[0].toNat = 45) (ht : t = s.extract 1 s.size) :
    ∃ (v : Int) (k : Nat), k ≤ 2 ∧ -9223372036854775808 ≤ v ∧ v ≤ 9223372036854775807 ∧ ∀ w, Calls Tryz.prog 79 #[.string s, .int .i64 0, .int .i64 0] w fun e w' => e = .returned (iTup v k) ∧ Below w.heap.size w w' := by
  have hemp := nonempty h0
  have hq2 : ∀ W, (binOp .neq 49 (.iface 155 (.int .i64 2)) (.iface 155 (.int .i64 1))).run Tryz.prog W = .ok (.bool true) W := fun W => Lib.run_neq_iface_int W 2 1 Tryz.underlying49 (by kernel_rfl) Tryz.underlying155
  have hq1 : ∀ W, (binOp .neq 49 (.iface 155 (.int .i64 1)) (.iface 155 (.int .i64 1))).run Tryz.prog W = .ok (.bool false) W := fun W => Lib.run_neq_iface_int W 1 1 Tryz.underlying49 (by kernel_rfl) Tryz.underlying155
  have hmin : wrap64 (-wrap64 9223372036854775808) = -9223372036854775808 := by unfold wrap64; omega
  have hz0 : (s[0].toNat : Int) = 45 := by omega
  have hsl : ∀ W, (Instr.slice 9 (.string s) (some (.int .i64 1)) none none).run Tryz.prog W = .ok (.string t) W := fun W => by
    rw [run_slice_string_from_if W 9 s .i64 _ Tryz.underlying9, if_pos ⟨by omega, by omega⟩, ht]
    rfl
  clear ht
  unfold PUAt at hU
  cases R with
  | bad =>
    simp only [uTup] at hU
    refine ⟨0, 2, by omega, by omega, by omega, fun w => ?_⟩
    go_enter Tryz.func79, Tryz.ntmps79
    go_wp2_with (go_at_call 90; refine (hU _).mono ?_; rintro e w1 ⟨rfl, hb⟩)
    go_wp2
    go_ret2
    exact ⟨rfl, hb⟩
  | range =>
    simp only [uTup] at hU
    refine ⟨-9223372036854775808, 1, by omega, by omega, by omega, fun w => ?_⟩
    go_enter Tryz.func79, Tryz.ntmps79
    go_wp2_with (go_at_call 90; refine (hU _).mono ?_; rintro e w1 ⟨rfl, hb⟩)
    go_wp2
    go_ret2
    exact ⟨by first | rfl | (simp only [hmin]; rfl), hb⟩
  | ok u =>
    have hu := hR u rfl
    simp only [uTup] at hU
    obtain ⟨a, ha⟩ : ∃ a : Int, a = (u : Int) := ⟨_, rfl⟩
    rw [← ha] at hU
    have a0 : 0 ≤ a := by omega
    have a1 : a < 18446744073709551616 := by omega
    clear ha hu hR
    by_cases hout : 9223372036854775808 < a
    · refine ⟨-9223372036854775808, 1, by omega, by omega, by omega, fun w => ?_⟩
      go_enter Tryz.func79, Tryz.ntmps79
      go_wp2_with (go_at_call 90; refine (hU _).mono ?_; rintro e w1 ⟨rfl, hb⟩)
      go_wp2
      go_ret2
      exact ⟨by first | rfl | (simp only [hmin]; rfl), hb⟩
    · by_cases heq : a = 9223372036854775808
      · subst heq
        refine ⟨-9223372036854775808, 0, by omega, by omega, by omega, fun w => ?_⟩
        go_enter Tryz.func79, Tryz.ntmps79
        go_wp2_with (go_at_call 90; refine (hU _).mono ?_; rintro e w1 ⟨rfl, hb⟩)
        go_wp2
        go_ret2
        exact ⟨by first | rfl | (simp only [hmin]; rfl), hb⟩
      · have iin : a < 9223372036854775808 := by omega
        have hw : wrap64 a = a := by unfold wrap64; omega
        have hw2 : wrap64 (-a) = -a := by unfold wrap64; omega
        refine ⟨-a, 0, by omega, by omega, by omega, fun w => ?_⟩
        go_enter Tryz.func79, Tryz.ntmps79
        go_wp2_with (go_at_call 90; refine (hU _).mono ?_; rintro e w1 ⟨rfl, hb⟩)
        go_wp2
        go_ret2
        exact ⟨by first | rfl | (simp only [hw, hw2]; rfl), hb⟩

set_option maxHeartbeats 6400000 in
set_option maxRecDepth 100000 in
theorem pi_bare (s t : ByteArray) (R : PEnd Nat) (hR : ∀ n, R = .ok n → n < 18446744073709551616) (hU : PUAt t R) (h0 : 0 < s.size) (hz : s[0].toNat ≠ 43 ∧ s[0].toNat ≠ 45) (ht : t = s) :
    ∃ (v : Int) (k : Nat), k ≤ 2 ∧ -9223372036854775808 ≤ v ∧ v ≤ 9223372036854775807 ∧ ∀ w, Calls Tryz.prog 79 #[.string s, .int .i64 0, .int .i64 0] w fun e w' => e = .returned (iTup v k) ∧ Below w.heap.size w w' := by
  have hemp := nonempty h0
  have hq2 : ∀ W, (binOp .neq 49 (.iface 155 (.int .i64 2)) (.iface 155 (.int .i64 1))).run Tryz.prog W = .ok (.bool true) W := fun W => Lib.run_neq_iface_int W 2 1 Tryz.underlying49 (by kernel_rfl) Tryz.underlying155
  have hq1 : ∀ W, (binOp .neq 49 (.iface 155 (.int .i64 1)) (.iface 155 (.int .i64 1))).run Tryz.prog W = .ok (.bool false) W := fun W => Lib.run_neq_iface_int W 1 1 Tryz.underlying49 (by kernel_rfl) Tryz.underlying155
  have hmin : wrap64 (-wrap64 9223372036854775808) = -9223372036854775808 := by unfold wrap64; omega
  subst ht
  obtain ⟨hz1, hz2⟩ := hz
  have b1 : (((t[0]'h0).toNat : Int) == 43) = false := by simp; omega
  have b2 : (((t[0]'h0).toNat : Int) == 45) = false := by simp; omega
  unfold PUAt at hU
  cases R with
  | bad =>
    simp only [uTup] at hU
    refine ⟨0, 2, by omega, by omega, by omega, fun w => ?_⟩
    go_enter Tryz.func79, Tryz.ntmps79
    go_wp2_with (go_at_call 90; refine (hU _).mono ?_; rintro e w1 ⟨rfl, hb⟩)
    go_wp2
    go_ret2
    exact ⟨rfl, hb⟩
  | range =>
    simp only [uTup] at hU
    refine ⟨9223372036854775807, 1, by omega, by omega, by omega, fun w => ?_⟩
    go_enter Tryz.func79, Tryz.ntmps79
    go_wp2_with (go_at_call 90; refine (hU _).mono ?_; rintro e w1 ⟨rfl, hb⟩)
    go_wp2
    go_ret2
    exact ⟨by first | rfl | (simp only [hmin]; rfl), hb⟩
  | ok u =>
    have hu := hR u rfl
    simp only [uTup] at hU
    obtain ⟨a, ha⟩ : ∃ a : Int, a = (u : Int) := ⟨_, rfl⟩
    rw [← ha] at hU
    have a0 : 0 ≤ a := by omega
    have a1 : a < 18446744073709551616 := by omega
    clear ha hu hR
    by_cases hout : 9223372036854775808 ≤ a
    · refine ⟨9223372036854775807, 1, by omega, by omega, by omega, fun w => ?_⟩
      go_enter Tryz.func79, Tryz.ntmps79
      go_wp2_with (go_at_call 90; refine (hU _).mono ?_; rintro e w1 ⟨rfl, hb⟩)
      go_wp2
      go_ret2
      exact ⟨by first | rfl | (simp only [hmin]; rfl), hb⟩
    · have iin : a < 9223372036854775808 := by omega
      have hw : wrap64 a = a := by unfold wrap64; omega
      refine ⟨a, 0, by omega, by omega, by omega, fun w => ?_⟩
      go_enter Tryz.func79, Tryz.ntmps79
      go_wp2_with (go_at_call 90; refine (hU _).mono ?_; rintro e w1 ⟨rfl, hb⟩)
      go_wp2
      go_ret2
      exact ⟨rfl, hb⟩

set_option maxRecDepth 100000 in
theorem pi_empty (w : World) : Calls Tryz.prog 79 #[.string ⟨#[]⟩, .int .i64 0, .int .i64 0] w fun e w' => e = .returned (iTup 0 2) ∧ Below w.heap.size w w' := by
  go_enter Tryz.func79, Tryz.ntmps79
  go_wp2
  go_ret2
  exact ⟨rfl, Below.refl _ _⟩

theorem parseIntI_any (s : ByteArray) (hs : s.size ≤ 1000) : ∃ (v : Int) (k : Nat), k ≤ 2 ∧ -9223372036854775808 ≤ v ∧ v ≤ 9223372036854775807 ∧ ∀ w, Calls Tryz.prog 79 #[.string s, .int .i64 0, .int .i64 0] w fun e w' => e = .returned (iTup v k) ∧ Below w.heap.size w w' := by
  by_cases h0 : 0 < s.size
  · have hx : (s.extract 1 s.size).size ≤ 1000 := by simp; omega
    by_cases h43 : s[0].toNat = 43
    · obtain ⟨R, hR, hU⟩ := parseUint_any (s.extract 1 s.size) hx
      exact pi_plus s _ R hR hU h0 h43 rfl
    · by_cases h45 : s[0].toNat = 45
      · obtain ⟨R, hR, hU⟩ := parseUint_any (s.extract 1 s.size) hx
        exact pi_minus s _ R hR hU h0 h45 rfl
      · obtain ⟨R, hR, hU⟩ := parseUint_any s hs
        exact pi_bare s _ R hR hU h0 ⟨h43, h45⟩ rfl
  · have he : s = ⟨#[]⟩ := ByteArray.ext (Array.eq_empty_of_size_eq_zero (by have : s.size = s.data.size := rfl; omega))
    subst he
    exact ⟨0, 2, by omega, by omega, by omega, pi_empty⟩

/-- strconv's two variables of errors hold errors, or nil. -/
def ErrVars (w : World) : Prop := (∃ ev, w.cell? ⟨3, 0, none⟩ = some ev ∧ (ev = .nilIface ∨ ∃ te pe, ev = .iface te pe)) ∧ (∃ ev, w.cell? ⟨4, 0, none⟩ = some ev ∧ (ev = .nilIface ∨ ∃ te pe, ev = .iface te pe))
theorem ErrVars.five {w : World} (h : ErrVars w) : 5 ≤ w.heap.size := by
  obtain ⟨_, ev, h, _⟩ := h
  have := World.block_lt_of_cell? w _ h
  exact this
theorem ErrVars.below {B : Nat} {w w' : World} (h : ErrVars w) (hB : 5 ≤ B) (hb : Below B w w') : ErrVars w' := by
  obtain ⟨⟨e1, h1, g1⟩, e2, h2, g2⟩ := h
  exact ⟨⟨e1, (hb.cell (show 3 < B by omega)).trans h1, g1⟩, e2, (hb.cell (show 4 < B by omega)).trans h2, g2⟩

/-- (v, nil) or (whatever, an error). -/
def Ends (r : Option Int) (v : Value) : Prop := match r with
  | some x => v = .tuple #[.int .i64 x, .nilIface]
  | none => ∃ (y : Int) (t : TypeId) (p : Value), v = .tuple #[.int .i64 y, .iface t p]

set_option maxRecDepth 100000 in
theorem parseInt_any (s : ByteArray) (hs : s.size ≤ 1000) : ∃ r : Option Int, (∀ v, r = some v → -9223372036854775808 ≤ v ∧ v ≤ 9223372036854775807) ∧ ∀ w, ErrVars w → Calls Tryz.prog 67 #[.string s, .int .i64 0, .int .i64 0] w fun e w' => (∃ v, e = .returned v ∧ Ends r v) ∧ Below w.heap.size w w' := by
  obtain ⟨v, k, hk, hv0, hv1, hI⟩ := parseIntI_any s hs
  have hk3 : k = 0 ∨ k = 1 ∨ k = 2 := by omega
  rcases hk3 with rfl | rfl | rfl
  · refine ⟨some v, fun x hx => (by cases hx; exact ⟨hv0, hv1⟩), fun w hE => ?_⟩
    simp only [iTup] at hI
    go_enter Tryz.func67, Tryz.ntmps67
    go_wp2_with (go_at_call 79; refine (hI _).mono ?_; rintro e w1 ⟨rfl, hb⟩)
    go_wp2
    go_ret2
    exact ⟨⟨_, rfl, rfl⟩, hb⟩
  · refine ⟨none, fun x hx => (by cases hx), fun w hE => ?_⟩
    simp only [iTup] at hI
    have h5 := hE.five
    have HE := Lib.hid hE
    clear hE
    go_enter Tryz.func67, Tryz.ntmps67
    go_wp2_with (go_at_call 79; refine (hI _).mono ?_; rintro e w1 ⟨rfl, hb⟩)
    obtain ⟨_, ev, hc, he⟩ := HE.out.below h5 hb
    go_wp2_with (go_at_call 80; refine (Tryz.strconv_toError_range ⟨#[80, 97, 114, 115, 101, 73, 110, 116]⟩ s 0 0 ev _ (by omega) hc he).mono ?_; rintro e w2 ⟨N, rfl, _, _, hb2⟩)
    go_wp2
    go_ret2
    exact ⟨⟨_, rfl, _, _, _, rfl⟩, hb.trans (hb2.mono hb.size)⟩
  · refine ⟨none, fun x hx => (by cases hx), fun w hE => ?_⟩
    simp only [iTup] at hI
    have h5 := hE.five
    have HE := Lib.hid hE
    clear hE
    go_enter Tryz.func67, Tryz.ntmps67
    go_wp2_with (go_at_call 79; refine (hI _).mono ?_; rintro e w1 ⟨rfl, hb⟩)
    obtain ⟨⟨ev, hc, he⟩, _⟩ := HE.out.below h5 hb
    go_wp2_with (go_at_call 80; refine (Tryz.strconv_toError_syntax ⟨#[80, 97, 114, 115, 101, 73, 110, 116]⟩ s 0 0 ev _ (by omega) hc he).mono ?_; rintro e w2 ⟨N, rfl, _, _, hb2⟩)
    go_wp2
    go_ret2
    exact ⟨⟨_, rfl, _, _, _, rfl⟩, hb.trans (hb2.mono hb.size)⟩
end Go.Proofs.YtcfknhboicomjaaGreatDoor.Ca
