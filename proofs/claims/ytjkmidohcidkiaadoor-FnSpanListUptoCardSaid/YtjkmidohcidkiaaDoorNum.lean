/- Plain facts: leading digits of a text, their value, units. No program in sight. -/
import Derived.Lib.Hide
namespace Go.Proofs.YtjkmidohcidkiaaDoor.Sp

def isDig (c : UInt8) : Bool := decide (48 ≤ c.toNat ∧ c.toNat ≤ 57)
def val (l : List UInt8) : Nat := l.foldl (fun a c => a * 10 + (c.toNat - 48)) 0
def digs (l : List UInt8) : List UInt8 := l.takeWhile isDig
def digN (l : List UInt8) : Nat := (digs l).length

theorem val_snoc (l : List UInt8) (c : UInt8) : val (l ++ [c]) = val l * 10 + (c.toNat - 48) := by simp [val]
theorem val_le (l r : List UInt8) : val l ≤ val (l ++ r) := by
  induction r generalizing l with
  | nil => simp
  | cons c r ih =>
    have := ih (l ++ [c])
    rw [val_snoc, List.append_assoc, List.singleton_append] at this
    omega
theorem val_take (l : List UInt8) (k : Nat) : val (l.take k) ≤ val l := by
  have := val_le (l.take k) (l.drop k)
  rwa [List.take_append_drop] at this
theorem digN_le (l : List UInt8) : digN l ≤ l.length := by
  unfold digN digs
  exact List.Sublist.length_le (List.takeWhile_sublist _)
theorem digs_take (l : List UInt8) : digs l = l.take (digN l) := by
  unfold digN digs
  induction l with
  | nil => rfl
  | cons c l ih =>
    rw [List.takeWhile_cons]
    split
    · simp; exact ih
    · simp
theorem digN_cons (c : UInt8) (l : List UInt8) : digN (c :: l) = if isDig c = true then digN l + 1 else 0 := by
  unfold digN digs
  rw [List.takeWhile_cons]
  split <;> simp
theorem dig_at' (l : List UInt8) (k : Nat) (h : k < digN l) (c : UInt8) (hc : l[k]? = some c) : isDig c = true := by
  induction l generalizing k with
  | nil => simp at hc
  | cons d l ih =>
    rw [digN_cons] at h
    split at h
    · rename_i hd
      cases k with
      | zero => simp at hc; rwa [← hc]
      | succ k => exact ih k (by omega) (by simpa using hc)
    · omega
theorem dig_end' (l : List UInt8) (c : UInt8) (hc : l[digN l]? = some c) : isDig c = false := by
  induction l with
  | nil => simp at hc
  | cons d l ih =>
    rw [digN_cons] at hc
    split at hc
    · exact ih (by simpa using hc)
    · rename_i hd
      simp at hc
      rw [← hc]; simpa using hd
/-- Inside the digits. -/
theorem dig_at (l : List UInt8) (k : Nat) (h : k < digN l) : ∃ hk : k < l.length, isDig l[k] = true := by
  have hk : k < l.length := Nat.lt_of_lt_of_le h (digN_le l)
  exact ⟨hk, dig_at' l k h _ (List.getElem?_eq_getElem hk)⟩
theorem dig_end (l : List UInt8) (h : digN l < l.length) : isDig l[digN l] = false := dig_end' l _ (List.getElem?_eq_getElem h)
theorem val_step (l : List UInt8) (k : Nat) (hk : k < l.length) (_hd : isDig l[k] = true) : val (l.take (k + 1)) = val (l.take k) * 10 + (l[k].toNat - 48) := by
  rw [List.take_succ_eq_append_getElem hk, val_snoc]
theorem val_pre (l : List UInt8) (k : Nat) (h : k ≤ digN l) : val (l.take k) ≤ val (digs l) := by
  rw [digs_take]
  have := val_take (l.take (digN l)) k
  rwa [List.take_take, Nat.min_eq_left h] at this
theorem isDig_iff (c : UInt8) : isDig c = true ↔ 48 ≤ c.toNat ∧ c.toNat ≤ 57 := by simp [isDig]
end Go.Proofs.YtjkmidohcidkiaaDoor.Sp
