/- The walk of strconv.ParseUint at base 0 and a text of decimal digits that begins with no 0, or is "0": its number. -/
import Derived.Test.YtigfkbeiaphjfaaGreatDoorTrim
import Derived.Lib.ConvBytes
namespace Go.Proofs.YtigfkbeiaphjfaaGreatDoor.Ca
open Go.RowKit

def valN (l : List UInt8) : Nat := l.foldl (fun a c => a * 10 + (c.toNat - 48)) 0
theorem valN_snoc (l : List UInt8) (c : UInt8) : valN (l ++ [c]) = valN l * 10 + (c.toNat - 48) := by simp [valN]
theorem valN_le (l r : List UInt8) : valN l ≤ valN (l ++ r) := by
  induction r generalizing l with
  | nil => simp
  | cons c r ih =>
    have := ih (l ++ [c])
    rw [valN_snoc, List.append_assoc, List.singleton_append] at this
    omega
theorem valN_step (s : ByteArray) (k : Nat) (hk : k < s.size) : valN (s.data.toList.take (k + 1)) = valN (s.data.toList.take k) * 10 + (s[k].toNat - 48) ∧ valN (s.data.toList.take (k + 1)) ≤ valN s.data.toList := by
  have hl : k < s.data.toList.length := by simpa using hk
  constructor
  · rw [List.take_succ_eq_append_getElem hl, valN_snoc]
    rfl
  · have := valN_le (s.data.toList.take (k + 1)) (s.data.toList.drop (k + 1))
    rwa [List.take_append_drop] at this

theorem below_bytes (w : World) (e : TypeId) (s : ByteArray) : Below w.heap.size w (Lib.bytesWorld w e s) :=
  ⟨rfl, rfl, rfl, by rw [Lib.bytesWorld_size]; omega, fun j hj => Lib.bytesWorld_at_old w e s j hj⟩

set_option maxHeartbeats 3200000 in
set_option maxRecDepth 100000 in
theorem parseUint_in (s : ByteArray) (h : Digs s) (hne : s[0]'h.1 ≠ 48) (hv : valN s.data.toList < 18446744073709551616) (w : World) :
    Calls Tryz.prog 114 #[.string s, .int .i64 0, .int .i64 0] w fun e w' => e = .returned (.tuple #[.int .u64 (valN s.data.toList : Nat), .nilIface]) ∧ Below w.heap.size w w' := by
  obtain ⟨h0, h400, h9⟩ := h
  have hemp : s.toList.isEmpty = false := by
    rw [ByteArray.toList_eq]
    cases e : s.data.toList with
    | nil => have : s.data.toList.length = s.size := by rw [Array.length_toList]; rfl
             rw [e] at this; simp at this; omega
    | cons a b => rfl
  have hz : ((s[0].toNat : Int) == 48) = false := by
    simp
    intro e
    exact hne (by apply UInt8.toNat_inj.1; simpa using (show s[0].toNat = 48 by omega))
  have hcv := Lib.run_convert_string_bytes (P := Tryz.prog) w 9 56 5 s (u := .string) Tryz.underlying9 Tryz.underlying56 Tryz.underlying5
  have hB : ∀ j (hj : j < s.size), (Lib.bytesWorld w 5 s).cell? ⟨w.heap.size, j, none⟩ = some (.int .u8 (s[j].toNat : Int)) := fun j hj => by
    rw [Lib.bytesWorld_cell w 5 s j hj]
    have hl : j < s.data.toList.length := by simpa using hj
    rw [List.getD_eq_getElem?_getD, List.getElem?_eq_getElem hl]
    rfl
  have hbel := below_bytes w 5 s
  obtain ⟨W1, hW1⟩ : ∃ W1, W1 = Lib.bytesWorld w 5 s := ⟨_, rfl⟩
  rw [← hW1] at hcv hB hbel
  clear hW1
  have HV := Lib.hid hv
  clear hv hne
  have hmv : IntKind.u64.wrap (IntKind.u64.wrap 18446744073709551616 - 1) = 18446744073709551615 := by
    rw [IntKind.wrap_u64, IntKind.wrap_u64]
    decide
  go_enter Tryz.func114, Tryz.ntmps114
  go_wp2
  go_loop [12, 13, 101] (fun vu vn vi => ∃ (k : Nat) (a : Int), vu = .bool false ∧ vn = .int .u64 a ∧ vi = .int .i64 k ∧ k ≤ s.size ∧ Hid (a = (valN (s.data.toList.take k) : Nat)))
    (fun _ _ vi => s.size - (intOf vi).toNat)
  case atStart => exact ⟨0, 0, rfl, rfl, rfl, Nat.zero_le _, rfl⟩
  case round =>
    obtain ⟨k, a, rfl, rfl, rfl, hk, ha⟩ := hrel
    by_cases hkn : k < s.size
    · have hc := hB k hkn
      obtain ⟨hd0, hd1⟩ := h9 k hkn
      have hstep := valN_step s k hkn
      have ha' := ha.out
      have hvv := HV.out
      have HN : Hid (a * 10 + ((s[k].toNat : Int) - 48) = (valN (s.data.toList.take (k + 1)) : Nat)) := by
        show _ = _
        rw [ha', hstep.1]
        omega
      have a0 : 0 ≤ a := by omega
      have icut : a < 1844674407370955162 := by omega
      have iov : a * 10 + ((s[k].toNat : Int) - 48) < 18446744073709551616 := by
        have := HN.out
        omega
      generalize s[k] = c at hc hd0 hd1 hstep HN iov
      have hc256 : c.toNat < 256 := c.toNat_lt
      clear hB hstep ha ha' hvv
      go_wp2
      refine ⟨⟨k + 1, a * 10 + ((c.toNat : Int) - 48), rfl, (by first | rfl | (congr 1; omega)), (by first | rfl | (congr 1; omega)), by omega, HN⟩, by simp [intOf]; omega⟩
    · obtain rfl : k = s.size := by omega
      have ha' := ha.out
      have hl : s.data.toList.length = s.size := by rw [Array.length_toList]; rfl
      rw [← hl, List.take_length] at ha'
      subst ha'
      go_wp2
      go_ret2
      exact ⟨rfl, hbel⟩

set_option maxHeartbeats 3200000 in
set_option maxRecDepth 100000 in
theorem parseUint_zero (w : World) :
    Calls Tryz.prog 114 #[.string ⟨#[48]⟩, .int .i64 0, .int .i64 0] w fun e w' => e = .returned (.tuple #[.int .u64 0, .nilIface]) ∧ Below w.heap.size w w' := by
  have hcv := Lib.run_convert_string_bytes (P := Tryz.prog) w 9 56 5 ByteArray.empty (u := .string) Tryz.underlying9 Tryz.underlying56 Tryz.underlying5
  have hbel := below_bytes w 5 ByteArray.empty
  obtain ⟨W1, hW1⟩ : ∃ W1, W1 = Lib.bytesWorld w 5 ByteArray.empty := ⟨_, rfl⟩
  rw [← hW1] at hcv hbel
  clear hW1
  have hmv : IntKind.u64.wrap (IntKind.u64.wrap 18446744073709551616 - 1) = 18446744073709551615 := by
    rw [IntKind.wrap_u64, IntKind.wrap_u64]
    decide
  go_enter Tryz.func114, Tryz.ntmps114
  go_wp2
  go_loop [12, 13, 101] (fun vu vn vi => vu = .bool false ∧ vn = .int .u64 0 ∧ vi = .int .i64 0) (fun _ _ _ => 0)
  case atStart => exact ⟨rfl, rfl, rfl⟩
  case round =>
    obtain ⟨rfl, rfl, rfl⟩ := hrel
    have he : decide ((0 : Int) < (ByteArray.empty.size : Int)) = false := by decide
    go_wp2
    go_ret2
    exact ⟨rfl, hbel⟩
end Go.Proofs.YtigfkbeiaphjfaaGreatDoor.Ca
