/- Plain: the steps of a duration's reading, as a loop with a running sum comes to them. -/
import Derived.Test.YtjkmidohcidkiaaDoorSpan
namespace Go.Proofs.YtjkmidohcidkiaaDoor.Sp

def NoFit (R : SRes) : Prop := ∀ v, R ≠ .fit v
def NoPart (l : List UInt8) : Prop := ∀ n r, partR l ≠ .fit n r

/-- R is what the rest l comes to behind a sum d; or nothing is said. -/
def Tr (neg : Bool) (R : SRes) (l : List UInt8) (d : Nat) : Prop := R = .opn ∨ ∃ n, l.length < n ∧ R = loopR neg n l d

theorem Tr.start (neg : Bool) (l : List UInt8) (h0 : l ≠ [48]) (h1 : l ≠ []) : Tr neg (bodyR neg l) l 0 :=
  .inr ⟨l.length + 1, by omega, by unfold bodyR; rw [if_neg h0, if_neg h1]⟩

theorem loopR_succ (neg : Bool) (n : Nat) (l : List UInt8) (d : Nat) (h : l ≠ []) : loopR neg (n + 1) l d = match partR l with
    | .wrong => .wrong
    | .opn => .opn
    | .fit v r => if top < d + v then (if v = top ∨ d = top then .opn else .wrong) else loopR neg n r (d + v) := by
  rw [loopR, if_neg h]; cases partR l <;> rfl

theorem Tr.bad {neg : Bool} {R : SRes} {l : List UInt8} {d : Nat} (h : Tr neg R l d) (hl : l ≠ []) (hp : NoPart l) : NoFit R := by
  rcases h with rfl | ⟨n, hn, rfl⟩
  · intro v hv; cases hv
  · obtain ⟨m, rfl⟩ : ∃ m, n = m + 1 := ⟨n - 1, by omega⟩
    rw [loopR_succ _ _ _ _ hl]
    intro v hv
    cases hpr : partR l with
    | wrong => rw [hpr] at hv; cases hv
    | opn => rw [hpr] at hv; cases hv
    | fit n r => exact hp n r hpr

theorem Tr.opn_of {neg : Bool} {R : SRes} {l : List UInt8} {d : Nat} (h : Tr neg R l d) (hl : l ≠ []) (hp : partR l = .opn) : R = .opn := by
  rcases h with rfl | ⟨n, hn, rfl⟩
  · rfl
  · obtain ⟨m, rfl⟩ : ∃ m, n = m + 1 := ⟨n - 1, by omega⟩
    rw [loopR_succ _ _ _ _ hl, hp]

/-- What a part of value y comes to, r being behind it. -/
def PV (l : List UInt8) (y : Nat) (r : List UInt8) : Prop := partR l = .opn ∨ (top < y ∧ NoPart l) ∨ (y ≤ top ∧ partR l = .fit y r)

theorem PV.bad {l r : List UInt8} {y : Nat} (h : PV l y r) (hy : top < y) : NoPart l := by
  rcases h with h | h | h
  · intro n r h2; rw [h] at h2; cases h2
  · exact h.2
  · omega

theorem Tr.next {neg : Bool} {R : SRes} {l r : List UInt8} {d y : Nat} (h : Tr neg R l d) (hl : l ≠ []) (hp : PV l y r) (hy : y ≤ top) (hd : d ≤ top) (s : Nat) (hs : s = (d + y) % 18446744073709551616) :
    (top < s ∧ NoFit R) ∨ (s ≤ top ∧ Tr neg R r s) := by
  have ht : top = 9223372036854775808 := rfl
  rcases hp with hp | hp | hp
  · have := h.opn_of hl hp
    subst this
    rcases Nat.lt_or_ge top s with h1 | h1
    · exact .inl ⟨h1, fun v hv => by cases hv⟩
    · exact .inr ⟨h1, .inl rfl⟩
  · omega
  · rcases h with rfl | ⟨n, hn, rfl⟩
    · rcases Nat.lt_or_ge top s with h1 | h1
      · exact .inl ⟨h1, fun v hv => by cases hv⟩
      · exact .inr ⟨h1, .inl rfl⟩
    · obtain ⟨m, rfl⟩ : ∃ m, n = m + 1 := ⟨n - 1, by omega⟩
      have hlen := (partR_len l y r hp.2).1
      rw [loopR_succ _ _ _ _ hl, hp.2]
      dsimp only
      by_cases hc : top < d + y
      · rw [if_pos hc]
        by_cases he : y = top ∨ d = top
        · rw [if_pos he]
          rcases Nat.lt_or_ge top s with h1 | h1
          · exact .inl ⟨h1, fun v hv => by cases hv⟩
          · exact .inr ⟨h1, .inl rfl⟩
        · rw [if_neg he]
          exact .inl ⟨by omega, fun v hv => by cases hv⟩
      · rw [if_neg hc]
        exact .inr ⟨by omega, .inr ⟨m, by omega, by rw [show s = d + y by omega]⟩⟩

theorem Tr.done {neg : Bool} {R : SRes} {d : Nat} (h : Tr neg R [] d) : R = .opn ∨ R = endR neg d := by
  rcases h with rfl | ⟨n, hn, rfl⟩
  · exact .inl rfl
  · obtain ⟨m, rfl⟩ : ∃ m, n = m + 1 := ⟨n - 1, by simp at hn; omega⟩
    right
    rw [loopR, if_pos rfl]

/-! the ways on which a part is none -/
theorem no_first (c : UInt8) (l : List UInt8) (h1 : c ≠ 46) (h2 : isDig c = false) : NoPart (c :: l) := by
  have hd : digN (c :: l) = 0 := by rw [digN_cons, if_neg (by simp [h2])]
  intro n r h
  unfold partR at h
  rw [hd, List.drop_zero, show cntF (c :: l) = 0 from if_neg h1] at h
  split at h
  · cases h
  · rw [if_neg (by omega), if_pos ⟨rfl, rfl⟩] at h
    cases h
theorem no_big (l : List UInt8) (h : top < val (digs l)) : NoPart l := by
  intro n r hp
  unfold partR at hp
  rw [if_pos h] at hp
  cases hp
theorem no_digits (l : List UInt8) (h1 : digN l = 0) (h2 : cntF (l.drop (digN l)) = 0) : NoPart l := by
  intro n r hp
  unfold partR at hp
  split at hp
  · cases hp
  · rw [if_neg (by omega), if_pos ⟨h1, h2⟩] at hp
    cases hp
theorem no_unit (l : List UInt8) (h : unitOf ((restF (l.drop (digN l))).take (uN (restF (l.drop (digN l))))) = 0) : NoPart l := by
  intro n r hp
  unfold partR at hp
  split at hp
  · cases hp
  · split at hp
    · cases hp
    · split at hp
      · cases hp
      · unfold partE at hp
        rw [if_pos (.inl h)] at hp
        cases hp
theorem no_room (l : List UInt8) (h : top / unitOf ((restF (l.drop (digN l))).take (uN (restF (l.drop (digN l))))) < val (digs l)) : NoPart l := by
  intro n r hp
  unfold partR at hp
  split at hp
  · cases hp
  · split at hp
    · cases hp
    · split at hp
      · cases hp
      · unfold partE at hp
        rw [if_pos (.inr h)] at hp
        cases hp

theorem part_val (l : List UInt8) (u y f : Nat) (hv : val (digs l) ≤ top) (hne : ¬(digN l = 0 ∧ cntF (l.drop (digN l)) = 0))
    (hu : unitOf ((restF (l.drop (digN l))).take (uN (restF (l.drop (digN l))))) = u) (hu0 : u ≠ 0) (hvu : val (digs l) ≤ top / u)
    (hf : cntF (l.drop (digN l)) ≤ 12 → f = valF (l.drop (digN l)))
    (hy : (f = 0 ∧ y = val (digs l) * u) ∨ (f ≠ 0 ∧ (cntF (l.drop (digN l)) ≤ 12 → u % 10 ^ cntF (l.drop (digN l)) = 0 → y = val (digs l) * u + f * (u / 10 ^ cntF (l.drop (digN l)))))) :
    PV l y ((restF (l.drop (digN l))).drop (uN (restF (l.drop (digN l))))) := by
  by_cases hk : 12 < cntF (l.drop (digN l))
  · left
    unfold partR
    rw [if_neg (by omega), if_pos hk]
  · have hf := hf (by omega)
    have e : partR l = partE (val (digs l)) (valF (l.drop (digN l))) (cntF (l.drop (digN l))) (restF (l.drop (digN l))) := by
      unfold partR
      rw [if_neg (by omega), if_neg hk, if_neg hne]
    have e2 : ¬ (u = 0 ∨ top / u < val (digs l)) := by omega
    rw [← hf] at e
    unfold PV NoPart
    rw [e]
    unfold partE
    rw [hu, if_neg e2]
    rcases hy with ⟨h0, hy⟩ | ⟨h0, hy⟩
    · rw [if_neg (by simp [h0]), h0, Nat.zero_mul, Nat.add_zero, ← hy]
      right
      by_cases ht : top < y
      · rw [if_pos ht]; exact .inl ⟨ht, fun n r h => by cases h⟩
      · rw [if_neg ht]; exact .inr ⟨by omega, rfl⟩
    · by_cases hm : u % 10 ^ cntF (l.drop (digN l)) = 0
      · rw [if_neg (by simp [hm]), ← hy (by omega) hm]
        right
        by_cases ht : top < y
        · rw [if_pos ht]; exact .inl ⟨ht, fun n r h => by cases h⟩
        · rw [if_neg ht]; exact .inr ⟨by omega, rfl⟩
      · left
        rw [if_pos ⟨h0, hm⟩]
end Go.Proofs.YtjkmidohcidkiaaDoor.Sp
