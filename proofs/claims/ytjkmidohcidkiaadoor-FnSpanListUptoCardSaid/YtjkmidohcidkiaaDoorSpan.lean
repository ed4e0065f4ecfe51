/- Plain: what a text is as a duration (the reference's words), part by part. No program in sight. -/
import Derived.Test.YtjkmidohcidkiaaDoorNum
namespace Go.Proofs.YtjkmidohcidkiaaDoor.Sp

def isU (c : UInt8) : Bool := !(c == 46) && !isDig c
def unitOf (u : List UInt8) : Nat :=
  if u = [110, 115] then 1
  else if u = [117, 115] ∨ u = [194, 181, 115] ∨ u = [206, 188, 115] then 1000
  else if u = [109, 115] then 1000000
  else if u = [115] then 1000000000
  else if u = [109] then 60000000000
  else if u = [104] then 3600000000000
  else 0
def cntF : List UInt8 → Nat
  | [] => 0
  | c :: l => if c = 46 then digN l else 0
def valF : List UInt8 → Nat
  | [] => 0
  | c :: l => if c = 46 then val (digs l) else 0
def restF : List UInt8 → List UInt8
  | [] => []
  | c :: l => if c = 46 then l.drop (digN l) else c :: l
def uN (l : List UInt8) : Nat := (l.takeWhile isU).length

inductive PRes where
  | wrong | opn
  | fit (n : Nat) (r : List UInt8)
inductive SRes where
  | wrong | opn
  | fit (v : Int)

def top : Nat := 9223372036854775808

/-- The part's end: v ahead of the point, k digits behind it that come to f, l the text from the unit on. -/
def partE (v f k : Nat) (l : List UInt8) : PRes :=
  if unitOf (l.take (uN l)) = 0 ∨ top / unitOf (l.take (uN l)) < v then .wrong
  else if f ≠ 0 ∧ unitOf (l.take (uN l)) % 10 ^ k ≠ 0 then .opn
  else if top < v * unitOf (l.take (uN l)) + f * (unitOf (l.take (uN l)) / 10 ^ k) then .wrong
  else .fit (v * unitOf (l.take (uN l)) + f * (unitOf (l.take (uN l)) / 10 ^ k)) (l.drop (uN l))

def partR (l : List UInt8) : PRes :=
  if top < val (digs l) then .wrong
  else if 12 < cntF (l.drop (digN l)) then .opn
  else if digN l = 0 ∧ cntF (l.drop (digN l)) = 0 then .wrong
  else partE (val (digs l)) (valF (l.drop (digN l))) (cntF (l.drop (digN l))) (restF (l.drop (digN l)))

def endR (neg : Bool) (sum : Nat) : SRes :=
  if neg = true then .fit (-(sum : Int)) else if sum = top then .wrong else .fit sum

/-- The parts, at most n of them. -/
def loopR (neg : Bool) : Nat → List UInt8 → Nat → SRes
  | 0, _, _ => .opn
  | n + 1, l, sum =>
    if l = [] then endR neg sum else
    match partR l with
    | .wrong => .wrong
    | .opn => .opn
    | .fit v r => if top < sum + v then (if v = top ∨ sum = top then .opn else .wrong) else loopR neg n r (sum + v)

def bodyR (neg : Bool) (l : List UInt8) : SRes :=
  if l = [48] then .fit 0 else if l = [] then .wrong else loopR neg (l.length + 1) l 0
def spanR : List UInt8 → SRes
  | [] => .wrong
  | c :: l => if c = 45 then bodyR true l else if c = 43 then bodyR false l else bodyR false (c :: l)

theorem uN_le (l : List UInt8) : uN l ≤ l.length := List.Sublist.length_le (List.takeWhile_sublist _)
theorem uN_cons (c : UInt8) (l : List UInt8) : uN (c :: l) = if isU c = true then uN l + 1 else 0 := by
  unfold uN
  rw [List.takeWhile_cons]
  split <;> simp
theorem uN_at (l : List UInt8) (k : Nat) (h : k < uN l) (c : UInt8) (hc : l[k]? = some c) : isU c = true := by
  induction l generalizing k with
  | nil => simp at hc
  | cons d l ih =>
    rw [uN_cons] at h
    split at h
    · rename_i hd
      cases k with
      | zero => simp at hc; rwa [← hc]
      | succ k => exact ih k (by omega) (by simpa using hc)
    · omega
theorem uN_end (l : List UInt8) (c : UInt8) (hc : l[uN l]? = some c) : isU c = false := by
  induction l with
  | nil => simp at hc
  | cons d l ih =>
    rw [uN_cons] at hc
    split at hc
    · exact ih (by simpa using hc)
    · rename_i hd
      simp at hc
      rw [← hc]; simpa using hd

theorem unitOf_nil : unitOf [] = 0 := by decide
theorem unitOf_units (u : List UInt8) (h : unitOf u ≠ 0) : unitOf u ∈ [1, 1000, 1000000, 1000000000, 60000000000, 3600000000000] := by
  unfold unitOf at *
  by_cases h1 : u = [110, 115]
  · rw [if_pos h1]; simp
  rw [if_neg h1] at h ⊢
  by_cases h2 : u = [117, 115] ∨ u = [194, 181, 115] ∨ u = [206, 188, 115]
  · rw [if_pos h2]; simp
  rw [if_neg h2] at h ⊢
  by_cases h3 : u = [109, 115]
  · rw [if_pos h3]; simp
  rw [if_neg h3] at h ⊢
  by_cases h4 : u = [115]
  · rw [if_pos h4]; simp
  rw [if_neg h4] at h ⊢
  by_cases h5 : u = [109]
  · rw [if_pos h5]; simp
  rw [if_neg h5] at h ⊢
  by_cases h6 : u = [104]
  · rw [if_pos h6]; simp
  rw [if_neg h6] at h
  exact absurd rfl h

/-- A part takes at least its unit's letter. -/
theorem partE_len (v f k : Nat) (l : List UInt8) (n : Nat) (r : List UInt8) (h : partE v f k l = .fit n r) : r = l.drop (uN l) ∧ 0 < uN l ∧ n ≤ top := by
  unfold partE at h
  split at h
  · cases h
  · rename_i h1
    split at h
    · cases h
    · split at h
      · cases h
      · rename_i h3
        injection h with h4 h5
        refine ⟨h5.symm, ?_, by omega⟩
        rcases Nat.eq_zero_or_pos (uN l) with h0 | h0
        · exfalso; apply h1; left; rw [h0, List.take_zero, unitOf_nil]
        · exact h0
theorem restF_len (l : List UInt8) : (restF l).length ≤ l.length := by
  cases l with
  | nil => simp [restF]
  | cons c l =>
    by_cases h : c = 46
    · simp [restF, h]; omega
    · simp [restF, h]
theorem partR_len (l : List UInt8) (n : Nat) (r : List UInt8) (h : partR l = .fit n r) : r.length < l.length ∧ n ≤ top := by
  unfold partR at h
  split at h
  · cases h
  · split at h
    · cases h
    · split at h
      · cases h
      · obtain ⟨h1, h2, h3⟩ := partE_len _ _ _ _ _ _ h
        refine ⟨?_, h3⟩
        have h4 := restF_len (l.drop (digN l))
        have h5 := uN_le (restF (l.drop (digN l)))
        rw [h1, List.length_drop]
        simp at h4
        omega
end Go.Proofs.YtjkmidohcidkiaaDoor.Sp
