/- The walk of strconv's ParseUint at base 0 and any text: what it answers hangs on the text alone. -/
import Derived.Test.YtcfknhboicomjaaGreatDoorChecked
import Derived.BigQuiet
import Derived.BigCall
import Derived.BigGuard
import Derived.Laws.Rows
import Derived.Laws.Strings3
import Derived.Laws.Closers25
import Derived.WalkKit
import Derived.Lib.Hide
import Derived.Lib.Walk
import Derived.Lib.Strings
import Derived.Lib.AtoiAll
import Derived.Lib.ItoaWalk
import Derived.Lib.ConvBytes
import Derived.Lib.OthersKept
import Derived.Deep.LoopGhost
import Derived.WalkLawsBesides
namespace Go.Proofs.YtcfknhboicomjaaGreatDoor.Ca
open Go.RowKit

/-- A byte with the bit 32 set. -/
def low (c : UInt8) : Int := bits .or .u8 (c.toNat : Int) 32
theorem low_lo (c : UInt8) : 0 ≤ low c := bits_lo_u8 .or _ _
theorem low_hi (c : UInt8) : low c ≤ 255 := bits_hi_u8 .or _ _
/-- What a byte is worth as a digit. -/
def digW (c : UInt8) : Option Nat :=
  if 48 ≤ c.toNat ∧ c.toNat ≤ 57 then some (c.toNat - 48)
  else if 97 ≤ low c ∧ low c ≤ 122 then some ((low c).toNat - 87) else none
/-- How the parse of an unsigned number ends. -/
inductive PEnd (α : Type) where
  | ok (v : α)
  | bad
  | range

/-- The bytes behind the prefix, at a base. -/
def puRun (b cut : Nat) : Nat → Bool → List UInt8 → PEnd (Nat × Bool)
  | a, u, [] => .ok (a, u)
  | a, u, c :: r =>
    if c.toNat = 95 then puRun b cut a true r
    else match digW c with
      | none => .bad
      | some d => if b ≤ d then .bad else if cut ≤ a then .range
        else if 18446744073709551616 ≤ a * b + d then .range else puRun b cut (a * b + d) u r
def puEnd (okS : Bool) : PEnd (Nat × Bool) → PEnd Nat
  | .ok (a, u) => if u && !okS then .bad else .ok a
  | .bad => .bad
  | .range => .range
def uTup : PEnd Nat → Value
  | .ok n => .tuple #[.int .u64 n, .nilIface]
  | .bad => .tuple #[.int .u64 0, .iface 155 (.int .i64 2)]
  | .range => .tuple #[.int .u64 18446744073709551615, .iface 155 (.int .i64 1)]

theorem below_bytes (w : World) (e : TypeId) (s : ByteArray) : Below w.heap.size w (Lib.bytesWorld w e s) :=
  ⟨rfl, rfl, rfl, by rw [Lib.bytesWorld_size]; omega, fun j hj => Lib.bytesWorld_at_old w e s j hj⟩

set_option maxRecDepth 100000 in
theorem lower_any (c : Int) (w : World) : Calls Tryz.prog 114 #[.int .u8 c] w fun e w' => e = .returned (.int .u8 (bits .or .u8 c 32)) ∧ w' = w := by
  go_enter Tryz.func114, Tryz.ntmps114
  go_wp2
  go_ret
  exact ⟨rfl, rfl⟩
theorem low_any (c : UInt8) (w : World) : Calls Tryz.prog 114 #[.int .u8 c.toNat] w fun e w' => e = .returned (.int .u8 (low c)) ∧ w' = w := lower_any _ w
theorem nonempty {s : ByteArray} (h : 0 < s.size) : s.toList.isEmpty = false := by
  rw [← decide_eq_emptyBytes]
  exact decide_eq_false (fun e => by rw [e] at h; exact absurd h (by decide))

theorem run_u (b cut acc : Nat) (u : Bool) (c : UInt8) (r : List UInt8) (h : c.toNat = 95) : puRun b cut acc u (c :: r) = puRun b cut acc true r := by rw [puRun, if_pos h]
theorem run_none (b cut acc : Nat) (u : Bool) (c : UInt8) (r : List UInt8) (h : c.toNat ≠ 95) (hd : digW c = none) : puRun b cut acc u (c :: r) = .bad := by rw [puRun, if_neg h, hd]
theorem run_big (b cut acc : Nat) (u : Bool) (c : UInt8) (r : List UInt8) (d : Nat) (h : c.toNat ≠ 95) (hd : digW c = some d) (h1 : b ≤ d) : puRun b cut acc u (c :: r) = .bad := by rw [puRun, if_neg h, hd]; simp [h1]
theorem run_cut (b cut acc : Nat) (u : Bool) (c : UInt8) (r : List UInt8) (d : Nat) (h : c.toNat ≠ 95) (hd : digW c = some d) (h1 : d < b) (h2 : cut ≤ acc) : puRun b cut acc u (c :: r) = .range := by
  rw [puRun, if_neg h, hd]; simp [Nat.not_le.2 h1, h2]
theorem run_over (b cut acc : Nat) (u : Bool) (c : UInt8) (r : List UInt8) (d : Nat) (h : c.toNat ≠ 95) (hd : digW c = some d) (h1 : d < b) (h3 : 18446744073709551616 ≤ acc * b + d) : puRun b cut acc u (c :: r) = .range := by
  rw [puRun, if_neg h, hd]; simp [Nat.not_le.2 h1, h3]
theorem run_on (b cut acc : Nat) (u : Bool) (c : UInt8) (r : List UInt8) (d : Nat) (h : c.toNat ≠ 95) (hd : digW c = some d) (h1 : d < b) (h2 : acc < cut) (h3 : acc * b + d < 18446744073709551616) : puRun b cut acc u (c :: r) = puRun b cut (acc * b + d) u r := by
  rw [puRun, if_neg h, hd]; simp [Nat.not_le.2 h1, Nat.not_le.2 h2, Nat.not_le.2 h3]
theorem digW_dig (c : UInt8) (h0 : 48 ≤ c.toNat) (h1 : c.toNat ≤ 57) : digW c = some (c.toNat - 48) := by rw [digW, if_pos ⟨h0, h1⟩]
theorem digW_let (c : UInt8) (h : ¬ (48 ≤ c.toNat ∧ c.toNat ≤ 57)) (h0 : 97 ≤ low c) (h1 : low c ≤ 122) : digW c = some ((low c).toNat - 87) := by rw [digW, if_neg h, if_pos ⟨h0, h1⟩]
theorem digW_none (c : UInt8) (h : ¬ (48 ≤ c.toNat ∧ c.toNat ≤ 57)) (h0 : ¬ (97 ≤ low c ∧ low c ≤ 122)) : digW c = none := by rw [digW, if_neg h, if_neg h0]

/-- What is known of an inner check. -/
def OkS (s : ByteArray) (okS : Bool) : Prop := ∀ W, Calls Tryz.prog 115 #[.string s] W fun e w' => e = .returned (.bool okS) ∧ Below W.heap.size W w'

end Go.Proofs.YtcfknhboicomjaaGreatDoor.Ca
