/- The walk of time.leadingInt. -/
import Derived.Test.YtjkmidohcidkiaaDoorPFnSpansx0
import Derived.Test.YtjkmidohcidkiaaDoorNum
import Derived.Outline
namespace Go.Proofs.YtjkmidohcidkiaaDoor.Sp
open Go.RowKit Go.Proofs.YtjkmidohcidkiaaDoorW.PrintWords

def bl (s : ByteArray) : List UInt8 := s.data.toList
theorem bl_len (s : ByteArray) : (bl s).length = s.size := data_length s
theorem bl_at (s : ByteArray) (k : Nat) (hk : k < s.size) : (bl s)[k]'(by rw [bl_len]; exact hk) = s[k] := rfl

def LIEnd (s : ByteArray) (a : Addr) (w : World) (e : Ending) (w' : World) : Prop :=
  (∃ n, w' = w.drewN n) ∧
  ((val (digs (bl s)) ≤ 9223372036854775808 ∧ e = .returned (.tuple #[.int .u64 (val (digs (bl s))), .string (s.extract (digN (bl s)) s.size), .nilIface])) ∨
   (9223372036854775808 < val (digs (bl s)) ∧ e = .returned (.tuple #[.int .u64 0, .string ⟨#[]⟩, .iface 109 (.pointer (some a))])))

set_option maxRecDepth 100000 in
set_option maxHeartbeats 800000 in
theorem leadingInt_any (s : ByteArray) (a : Addr) (w : World) (hs : s.size ≤ 9223372036854775807) (hg : w.cell? ⟨1, 0, none⟩ = some (.iface 109 (.pointer (some a)))) :
    Calls Tryd.prog 42 #[.string s] w (LIEnd s a w) := by
  go_enter Tryd.func42, Tryd.ntmps42
  go_wp2_with fail
  go_loop [2, 3, 4, 5] (fun x c d i => ∃ k : Nat, k ≤ digN (bl s) ∧ i = .int .i64 k ∧ c = .string ⟨#[]⟩ ∧ d = .nilIface ∧ x = .int .u64 (val ((bl s).take k)) ∧ val ((bl s).take k) ≤ 9223372036854775808) (fun _ _ _ i => s.size - (intOf i).toNat)
  case atStart => exact ⟨0, Nat.zero_le _, rfl, rfl, rfl, rfl, by simp [val]⟩
  case round =>
    obtain ⟨k, hk, rfl, rfl, rfl, rfl, hv⟩ := hrel
    have hdl := digN_le (bl s)
    rw [bl_len] at hdl
    by_cases hlt : k < digN (bl s)
    · obtain ⟨hk2, hd⟩ := dig_at _ k hlt
      have hks : k < s.size := by omega
      rw [show (bl s)[k] = s[k] from rfl, isDig_iff] at hd
      have hst := val_step (bl s) k hk2 (by rw [show (bl s)[k] = s[k] from rfl, isDig_iff]; exact hd)
      rw [show (bl s)[k] = s[k] from rfl] at hst
      have htot := val_pre (bl s) (k + 1) hlt
      obtain ⟨x, hx⟩ : ∃ x, val ((bl s).take k) = x := ⟨_, rfl⟩
      obtain ⟨y, hy⟩ : ∃ y, val ((bl s).take (k + 1)) = y := ⟨_, rfl⟩
      rw [hx] at hv hst ⊢
      rw [hy] at hst htot
      have Hy := Lib.hid hy
      have Htot := Lib.hid htot
      have Hst := Lib.hid hst
      have hd1 : ¬ (s[k].toNat : Int) < 48 := by omega
      have hd2 : ¬ (57 : Int) < s[k].toNat := by omega
      clear hx hy htot hst
      have fin : ∀ n : Nat, 9223372036854775808 < y → LIEnd s a w (.returned (.tuple #[.int .u64 0, .string ⟨#[]⟩, .iface 109 (.pointer (some a))])) (w.drewN n) := fun n hn => ⟨⟨n, rfl⟩, .inr ⟨Nat.lt_of_lt_of_le hn Htot.out, rfl⟩⟩
      have Hfin := Lib.hid fin
      clear fin
      by_cases h1 : 922337203685477580 < x
      · have t1 : decide ((922337203685477580 : Int) < (x : Int)) = true := by simp; omega
        have Hbig : Hid (9223372036854775808 < y) := by show _ < _; have := Hst.out; omega
        clear h1
        go_wp2_with fail
        go_quiet (fail)
        go_wp2
        go_ret3
        exact Hfin.out _ Hbig.out
      · have t1 : decide ((922337203685477580 : Int) < (x : Int)) = false := by simp; omega
        by_cases h2 : 9223372036854775808 < y
        · have t2 : decide ((9223372036854775808 : Int) < (x : Int) * 10 + (s[k].toNat : Int) - 48) = true := by have := Hst.out; simp; omega
          have Hbig := Lib.hid h2
          clear h2
          go_wp2_with fail
          go_quiet (fail)
          go_wp2
          go_ret3
          exact Hfin.out _ Hbig.out
        · have t2 : decide ((9223372036854775808 : Int) < (x : Int) * 10 + (s[k].toNat : Int) - 48) = false := by have := Hst.out; simp; omega
          have Hb := Lib.hid h2
          clear h2
          go_wp2
          exact ⟨⟨k + 1, hlt, by simp, rfl, rfl, by rw [Hy.out, Hst.out]; congr 1; omega, by rw [Hy.out]; exact Nat.le_of_not_lt Hb.out⟩, by simp [intOf]; omega⟩
    · obtain rfl : k = digN (bl s) := by omega
      have Hv : Hid (val (digs (bl s)) ≤ 9223372036854775808) := by show _ ≤ _; rw [digs_take]; exact hv
      have He := Lib.hid (digs_take (bl s))
      have hend : ∀ h : digN (bl s) < s.size, isDig s[digN (bl s)] = false := fun h => dig_end (bl s) (by rw [bl_len]; exact h)
      obtain ⟨x, hx⟩ : ∃ x, val ((bl s).take (digN (bl s))) = x := ⟨_, rfl⟩
      rw [hx] at hv ⊢
      generalize hkk : digN (bl s) = k at hdl hend ⊢
      have fin : ∀ n : Nat, LIEnd s a w (.returned (.tuple #[.int .u64 x, .string (s.extract k s.size), .nilIface])) (w.drewN n) := fun n => ⟨⟨n, rfl⟩, .inl ⟨Hv.out, by rw [He.out, hx, hkk]⟩⟩
      have Hfin := Lib.hid fin
      clear fin hx hkk hk hlt Hv He
      by_cases hks : k < s.size
      · have hd := hend hks
        have hd1 : ¬ (48 ≤ s[k].toNat ∧ s[k].toNat ≤ 57) := by rw [← isDig_iff, hd]; simp
        clear hend hd
        by_cases hlo : s[k].toNat < 48
        · have hd2 : (s[k].toNat : Int) < 48 := by omega
          go_wp2_with fail
          go_quiet (fail)
          go_wp2
          go_ret3
          exact Hfin.out _
        · have hd2 : ¬ (s[k].toNat : Int) < 48 := by omega
          have hd3 : (57 : Int) < s[k].toNat := by omega
          go_wp2_with fail
          go_quiet (fail)
          go_wp2
          go_ret3
          exact Hfin.out _
      · obtain rfl : k = s.size := by omega
        clear hend
        go_wp2_with fail
        go_quiet (fail)
        go_wp2
        go_ret3
        have he : s.extract s.size s.size = ByteArray.empty := by simp
        have hf := Hfin.out
        rw [he] at hf
        exact hf _
end Go.Proofs.YtjkmidohcidkiaaDoor.Sp
