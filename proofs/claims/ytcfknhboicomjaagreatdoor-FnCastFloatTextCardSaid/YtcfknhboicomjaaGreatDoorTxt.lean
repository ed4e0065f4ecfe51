/- Plain: strconv's readFloat over a text of digits and at most one dot; the text that fmtEFG writes is read back as the number it stands for. -/
import Derived.Test.YtcfknhboicomjaaGreatDoorFset
namespace Go.Proofs.YtcfknhboicomjaaGreatDoor.Ft
open Fy

/-- What readFloat holds: mantissa, nd, ndMant, dp, sawdot, sawdigits. -/
structure Rd where
  m : Nat
  nd : Nat
  nm : Nat
  dp : Int
  dot : Bool
  dig : Bool

def Rd.step (r : Rd) (c : Int) : Rd :=
  if c = 46 then ⟨r.m, r.nd, r.nm, r.nd, true, r.dig⟩
  else if c = 48 ∧ r.nd = 0 then ⟨r.m, r.nd, r.nm, r.dp - 1, r.dot, true⟩
  else if r.nm < 19 then ⟨r.m * 10 + (c - 48).toNat, r.nd + 1, r.nm + 1, r.dp, r.dot, true⟩
  else ⟨r.m, r.nd + 1, r.nm, r.dp, r.dot, true⟩
def Rd.fits (r : Rd) (c : Int) : Prop := (c = 46 ∧ r.dot = false) ∨ (48 ≤ c ∧ c ≤ 57 ∧ (c = 48 ∨ r.nm < 19))
def Rd.good : Rd → List Int → Prop
  | _, [] => True
  | r, c :: l => r.fits c ∧ (r.step c).good l
def Rd.run (r : Rd) (l : List Int) : Rd := l.foldl Rd.step r
theorem Rd.run_append (r : Rd) (a b : List Int) : r.run (a ++ b) = (r.run a).run b := List.foldl_append ..
theorem Rd.run_cons (r : Rd) (c : Int) (l : List Int) : r.run (c :: l) = (r.step c).run l := rfl
theorem Rd.good_append (a b : List Int) : ∀ r : Rd, r.good a → (r.run a).good b → r.good (a ++ b) := by
  induction a with
  | nil => exact fun r _ h => h
  | cons c l ih => exact fun r h1 h2 => ⟨h1.1, ih (r.step c) h1.2 h2⟩
/-- The bounds of it all, i bytes read. -/
structure Rd.ok (r : Rd) (i : Nat) : Prop where
  nd : r.nd ≤ i
  nm : r.nm ≤ 19
  nn : r.nm ≤ r.nd
  m : r.m < 10 ^ r.nm
  d0 : -(i : Int) ≤ r.dp
  d1 : r.dp ≤ i
theorem Rd.ok.step {r : Rd} {i : Nat} (h : r.ok i) {c : Int} (hf : r.fits c) : (r.step c).ok (i + 1) := by
  have h1 := h.nd; have h2 := h.nm; have h3 := h.nn; have h4 := h.m; have h5 := h.d0; have h6 := h.d1
  unfold Rd.step
  split
  · exact ⟨by dsimp only; omega, h2, h3, h4, by dsimp only; omega, by dsimp only; omega⟩
  · split
    · exact ⟨by dsimp only; omega, h2, h3, h4, by dsimp only; omega, by dsimp only; omega⟩
    · split
      · refine ⟨by dsimp only; omega, by dsimp only; omega, by dsimp only; omega, ?_, by dsimp only; omega, by dsimp only; omega⟩
        dsimp only
        rw [Nat.pow_succ]
        rcases hf with hf | hf <;> omega
      · exact ⟨by dsimp only; omega, h2, by dsimp only; omega, h4, by dsimp only; omega, by dsimp only; omega⟩
def Rd.start : Rd := ⟨0, 0, 0, 0, false, false⟩
theorem Rd.ok_start : Rd.start.ok 0 := ⟨by decide, by decide, by decide, by decide, by decide, by decide⟩
def Rd.point (r : Rd) : Int := if r.dot then r.dp else r.nd
def Rd.exp (r : Rd) : Int := if r.m = 0 then 0 else r.point - r.nm

theorem div_step (d n j : Nat) (h : j < n) : d / 10 ^ (n - j) * 10 + d / 10 ^ (n - 1 - j) % 10 = d / 10 ^ (n - (j + 1)) := by
  rw [show n - j = (n - (j + 1)) + 1 by omega, Nat.pow_succ, ← Nat.div_div_eq_div_mul, show n - 1 - j = n - (j + 1) by omega]
  omega
theorem dgt_ge (d n j : Nat) : 48 ≤ dgt d n j ∧ dgt d n j ≤ 57 ∧ (dgt d n j - 48).toNat = d / 10 ^ (n - 1 - j) % 10 := by
  unfold dgt
  have := Nat.mod_lt (d / 10 ^ (n - 1 - j)) (show 0 < 10 by omega)
  omega
theorem run_digits (d n j : Nat) (r : Rd) (hnd : r.nd = j) (hnm : r.nm = j) (hm : r.m = d / 10 ^ (n - j)) (h0 : j = 0 → dgt d n 0 ≠ 48) : ∀ m : Nat, j + m ≤ n → j + m ≤ 19 →
    r.good ((List.range m).map (fun q => dgt d n (j + q))) ∧ (r.run ((List.range m).map (fun q => dgt d n (j + q)))) = ⟨d / 10 ^ (n - (j + m)), j + m, j + m, r.dp, r.dot, r.dig || decide (0 < m)⟩ := by
  intro m
  induction m with
  | zero =>
    intro _ _
    refine ⟨trivial, ?_⟩
    cases r
    simp only at hnd hnm hm
    subst hnd hnm hm
    simp [Rd.run]
  | succ m ih =>
    intro h1 h2
    obtain ⟨g, e⟩ := ih (by omega) (by omega)
    obtain ⟨b1, b2, b3⟩ := dgt_ge d n (j + m)
    rw [List.range_succ, List.map_append]
    have hs : Rd.step ⟨d / 10 ^ (n - (j + m)), j + m, j + m, r.dp, r.dot, r.dig || decide (0 < m)⟩ (dgt d n (j + m)) = ⟨d / 10 ^ (n - (j + (m + 1))), j + (m + 1), j + (m + 1), r.dp, r.dot, r.dig || decide (0 < m + 1)⟩ := by
      unfold Rd.step
      rw [if_neg (by omega), if_neg (by
        rintro ⟨a, b⟩
        have ha : j + m = 0 := b
        have hj : j = 0 := by omega
        rw [ha] at a
        exact h0 hj a), if_pos (show j + m < 19 by omega)]
      simp only [b3]
      rw [div_step d n (j + m) (by omega)]
      simp [Nat.add_assoc]
    refine ⟨Rd.good_append _ _ _ g ?_, ?_⟩
    · rw [e]
      exact ⟨.inr ⟨b1, b2, .inr (show j + m < 19 by omega)⟩, trivial⟩
    · rw [Rd.run_append, e]
      exact hs
theorem run_zeros (r : Rd) (j : Nat) (hj : 1 ≤ j) (hj2 : j ≤ 19) (hnd : r.nd = j) (hnm : r.nm = j) (hdig : r.dig = true) : ∀ z : Nat,
    r.good (List.replicate z 48) ∧ r.run (List.replicate z 48) = ⟨r.m * 10 ^ (min (j + z) 19 - j), j + z, min (j + z) 19, r.dp, r.dot, true⟩ := by
  intro z
  induction z with
  | zero =>
    refine ⟨trivial, ?_⟩
    cases r
    simp only at hnd hnm hdig
    subst hnd hnm hdig
    rw [Nat.add_zero, Nat.min_eq_left hj2, Nat.sub_self, Nat.pow_zero, Nat.mul_one]
    rfl
  | succ z ih =>
    obtain ⟨g, e⟩ := ih
    rw [List.replicate_succ']
    have hs : Rd.step ⟨r.m * 10 ^ (min (j + z) 19 - j), j + z, min (j + z) 19, r.dp, r.dot, true⟩ 48 = ⟨r.m * 10 ^ (min (j + (z + 1)) 19 - j), j + (z + 1), min (j + (z + 1)) 19, r.dp, r.dot, true⟩ := by
      unfold Rd.step
      rw [if_neg (by decide), if_neg (show ¬ ((48 : Int) = 48 ∧ j + z = 0) by omega)]
      by_cases hc : j + z < 19
      · rw [if_pos (show min (j + z) 19 < 19 by omega)]
        have e1 : min (j + (z + 1)) 19 = min (j + z) 19 + 1 := by omega
        rw [e1, show min (j + z) 19 + 1 - j = (min (j + z) 19 - j) + 1 by omega, Nat.pow_succ, ← Nat.mul_assoc]
        rfl
      · rw [if_neg (show ¬ min (j + z) 19 < 19 by omega)]
        have e1 : min (j + (z + 1)) 19 = min (j + z) 19 := by omega
        rw [e1]
        rfl
    refine ⟨Rd.good_append _ _ _ g ?_, ?_⟩
    · exact ⟨.inr ⟨by decide, by decide, .inl rfl⟩, trivial⟩
    · rw [Rd.run_append, e]
      exact hs
theorem run_lead (r : Rd) (hnd : r.nd = 0) : ∀ z : Nat, r.good (List.replicate z 48) ∧ r.run (List.replicate z 48) = ⟨r.m, 0, r.nm, r.dp - z, r.dot, r.dig || decide (0 < z)⟩ := by
  intro z
  induction z with
  | zero =>
    refine ⟨trivial, ?_⟩
    cases r
    simp only at hnd
    subst hnd
    simp [Rd.run]
  | succ z ih =>
    obtain ⟨g, e⟩ := ih
    rw [List.replicate_succ']
    have hs : Rd.step ⟨r.m, 0, r.nm, r.dp - z, r.dot, r.dig || decide (0 < z)⟩ 48 = ⟨r.m, 0, r.nm, r.dp - (z + 1 : Nat), r.dot, r.dig || decide (0 < z + 1)⟩ := by
      unfold Rd.step
      rw [if_neg (by decide), if_pos (show (48 : Int) = 48 ∧ (0 : Nat) = 0 from ⟨rfl, rfl⟩)]
      simp
      omega
    refine ⟨Rd.good_append _ _ _ g ?_, ?_⟩
    · exact ⟨.inr ⟨by decide, by decide, .inl rfl⟩, trivial⟩
    · rw [Rd.run_append, e]
      exact hs

/-- The first bytes of a text. -/
def Front (l : List Int) : Prop := ∃ c r, l = c :: r ∧ 48 ≤ c ∧ c ≤ 57 ∧ (c = 48 → r = [] ∨ ∃ r', r = 46 :: r')

/-- What is read back. -/
structure Back (l : List Int) (D k : Nat) (dp : Int) : Prop where
  front : Front l
  good : Rd.start.good l
  dig : (Rd.start.run l).dig = true
  num : (dp < k ∧ (Rd.start.run l).m = D ∧ (Rd.start.run l).point - (Rd.start.run l).nm = dp - k) ∨
    (k ≤ dp ∧ ∃ t : Nat, (Rd.start.run l).m = D * 10 ^ t ∧ (t : Int) = min dp 19 - k ∧ (Rd.start.run l).point - (Rd.start.run l).nm = dp - k - t)

theorem text_back (d n k : Nat) (dp : Int) (hk1 : 1 ≤ k) (hkn : k ≤ n) (hk19 : k ≤ 19) (hl : d / 10 ^ (n - 1) % 10 ≠ 0) (hd : d < 10 ^ n) :
    Back (ipart (dgt d n) k dp ++ fpart (dgt d n) k dp) (d / 10 ^ (n - k)) k dp := by
  have h48 : dgt d n 0 ≠ 48 := by unfold dgt; rw [Nat.sub_zero]; omega
  have hd0 : d / 10 ^ n = 0 := Nat.div_eq_of_lt hd
  obtain ⟨b1, b2, _⟩ := dgt_ge d n 0
  have map_cons : ∀ m : Nat, 1 ≤ m → (List.range m).map (dgt d n) = dgt d n 0 :: (List.range (m - 1)).map (fun q => dgt d n (q + 1)) := fun m hm => by
    obtain ⟨m', rfl⟩ : ∃ m', m = m' + 1 := ⟨m - 1, by omega⟩
    rw [List.range_succ_eq_map, List.map_cons, List.map_map]
    rfl
  have dig0 := fun m => run_digits d n 0 Rd.start rfl rfl (by rw [Nat.sub_zero, hd0]; rfl) (fun _ => h48) m
  simp only [Nat.zero_add] at dig0
  by_cases hdp : 0 < dp
  · obtain ⟨P, rfl⟩ : ∃ P : Nat, dp = P := ⟨dp.toNat, by omega⟩
    have hP : 1 ≤ P := by omega
    have ei : ipart (dgt d n) k (P : Int) = (List.range (min k P)).map (dgt d n) ++ List.replicate (P - k) 48 := by
      unfold ipart; rw [if_pos hdp]; rfl
    have hfr : ∀ x, Front (ipart (dgt d n) k (P : Int) ++ x) := fun x => by
      rw [ei, map_cons _ (by omega)]
      exact ⟨_, _, rfl, b1, b2, fun h => absurd h h48⟩
    by_cases hlt : P < k
    · have ef : fpart (dgt d n) k (P : Int) = [46] ++ (List.range (k - P)).map (fun i => dgt d n (P + i)) := by
        unfold fpart
        rw [if_pos (by omega), show (-(P : Int)).toNat = 0 by omega, show ((P : Int)).toNat = P by omega]
        simp
      have hip : ipart (dgt d n) k (P : Int) = (List.range P).map (dgt d n) := by
        rw [ei, Nat.min_eq_right (by omega), Nat.sub_eq_zero_of_le (by omega)]
        simp
      obtain ⟨g1, e1⟩ := dig0 P (by omega) (by omega)
      have hst : Rd.step ⟨d / 10 ^ (n - P), P, P, Rd.start.dp, Rd.start.dot, Rd.start.dig || decide (0 < P)⟩ 46 = ⟨d / 10 ^ (n - P), P, P, P, true, Rd.start.dig || decide (0 < P)⟩ := rfl
      obtain ⟨g2, e2⟩ := run_digits d n P ⟨d / 10 ^ (n - P), P, P, P, true, Rd.start.dig || decide (0 < P)⟩ rfl rfl rfl (fun h => by omega) (k - P) (by omega) (by omega)
      have hrun : Rd.start.run (ipart (dgt d n) k (P : Int) ++ fpart (dgt d n) k (P : Int)) = ⟨d / 10 ^ (n - k), k, k, P, true, true⟩ := by
        rw [hip, ef, Rd.run_append, Rd.run_append, e1]
        show Rd.run (Rd.step _ 46) _ = _
        rw [hst, e2]
        rw [show P + (k - P) = k by omega]
        simp [Rd.start]
        left; omega
      refine ⟨hfr _, ?_, by rw [hrun], .inl ⟨by omega, by rw [hrun], by rw [hrun]; rfl⟩⟩
      rw [hip, ef]
      refine Rd.good_append _ _ _ g1 ?_
      rw [e1]
      exact ⟨.inl ⟨rfl, rfl⟩, by rw [hst]; exact g2⟩
    · have ef : fpart (dgt d n) k (P : Int) = [] := by unfold fpart; rw [if_neg (by omega)]
      have hip : ipart (dgt d n) k (P : Int) = (List.range k).map (dgt d n) ++ List.replicate (P - k) 48 := by
        rw [ei, Nat.min_eq_left (by omega)]
      obtain ⟨g1, e1⟩ := dig0 k (by omega) (by omega)
      obtain ⟨g2, e2⟩ := run_zeros ⟨d / 10 ^ (n - k), k, k, Rd.start.dp, Rd.start.dot, Rd.start.dig || decide (0 < k)⟩ k hk1 hk19 rfl rfl (by simp; right; omega) (P - k)
      rw [show k + (P - k) = P by omega] at e2
      have hrun : Rd.start.run (ipart (dgt d n) k (P : Int) ++ fpart (dgt d n) k (P : Int)) = ⟨d / 10 ^ (n - k) * 10 ^ (min P 19 - k), P, min P 19, 0, false, true⟩ := by
        rw [hip, ef, List.append_nil, Rd.run_append, e1, e2]
        rfl
      refine ⟨hfr _, ?_, by rw [hrun], .inr ⟨by omega, min P 19 - k, by rw [hrun], by omega, ?_⟩⟩
      · rw [hip, ef, List.append_nil]
        refine Rd.good_append _ _ _ g1 ?_
        rw [e1]
        exact g2
      · rw [hrun]
        show (if false = true then (0 : Int) else (P : Int)) - ((min P 19 : Nat) : Int) = _
        rw [if_neg (by decide)]
        omega
  · obtain ⟨Z, hZ⟩ : ∃ Z : Nat, (-dp).toNat = Z := ⟨_, rfl⟩
    have hdp2 : dp = -(Z : Int) := by omega
    have ei : ipart (dgt d n) k dp = [48] := by unfold ipart; rw [if_neg hdp]
    have ef : fpart (dgt d n) k dp = [46] ++ List.replicate Z 48 ++ (List.range k).map (dgt d n) := by
      unfold fpart
      rw [if_pos (by omega), hZ, show dp.toNat = 0 by omega]
      simp
    have hst1 : Rd.start.run [48, 46] = ⟨0, 0, 0, 0, true, true⟩ := rfl
    obtain ⟨g2, e2⟩ := run_lead ⟨0, 0, 0, 0, true, true⟩ rfl Z
    have e2' : Rd.run ⟨0, 0, 0, 0, true, true⟩ (List.replicate Z 48) = ⟨0, 0, 0, 0 - Z, true, true⟩ := by rw [e2]; rfl
    obtain ⟨g3, e3⟩ := run_digits d n 0 ⟨0, 0, 0, 0 - Z, true, true⟩ rfl rfl (by rw [Nat.sub_zero, hd0]) (fun _ => h48) k (by omega) (by omega)
    simp only [Nat.zero_add] at g3 e3
    have htx : ipart (dgt d n) k dp ++ fpart (dgt d n) k dp = [48, 46] ++ (List.replicate Z 48 ++ (List.range k).map (dgt d n)) := by
      rw [ei, ef]; simp
    have hrun : Rd.start.run (ipart (dgt d n) k dp ++ fpart (dgt d n) k dp) = ⟨d / 10 ^ (n - k), k, k, 0 - Z, true, true⟩ := by
      rw [htx, Rd.run_append, hst1, Rd.run_append, e2', e3]
      rfl
    refine ⟨?_, ?_, by rw [hrun], .inl ⟨by omega, by rw [hrun], ?_⟩⟩
    · rw [htx]
      exact ⟨48, _, rfl, by decide, by decide, fun _ => .inr ⟨_, rfl⟩⟩
    · rw [htx]
      refine Rd.good_append _ _ _ ?_ ?_
      · exact ⟨.inr ⟨by decide, by decide, .inl rfl⟩, .inl ⟨rfl, rfl⟩, trivial⟩
      · rw [hst1]
        refine Rd.good_append _ _ _ g2 ?_
        rw [e2']
        exact g3
    · rw [hrun]
      show (if true = true then (0 - (Z : Int)) else (k : Int)) - (k : Int) = _
      rw [if_pos rfl]
      omega
end Go.Proofs.YtcfknhboicomjaaGreatDoor.Ft
