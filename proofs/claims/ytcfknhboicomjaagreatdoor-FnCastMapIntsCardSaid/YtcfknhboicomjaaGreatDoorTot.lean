/- Plain facts: what the printed functions of underscoreOK, zzIndex, zzNumber, trimDecimal are asked they answer, at texts of at most 1000 bytes. -/
import Derived.Test.YtcfknhboicomjaaGreatDoorUok
import Derived.Test.YtcfknhboicomjaaGreatDoorTrim
namespace Go.Proofs.YtcfknhboicomjaaGreatDoor.Ca
open Go.RowKit PFnCastMapInt64s Go.Proofs.YtcfknhboicomjaaGreatDoorW.PrintWords

theorem w1 {x : Int} (h0 : 0 ≤ x) (h1 : x ≤ 1000) : wrap64 (x + 1) = x + 1 := by unfold wrap64; omega

theorem uok_l0 (s : ByteArray) (hs : s.size ≤ 1000) : ∀ (n k : Nat) (x3 x4 : Int) (x5 : Bool), 0 ≤ x4 → x4 ≤ s.size → (s.size : Int) - x4 ≤ n → 2 * n + 2 ≤ k → ∃ r, strconv_underscoreOK.l0 k s x3 x4 x5 = some r
  | n, k, x3, x4, x5, h0, h1, hn, hk => by
    obtain ⟨k, rfl⟩ : ∃ k', k = k' + 2 := ⟨k - 2, by omega⟩
    by_cases hl : x4 < (s.size : Int)
    · obtain ⟨n, rfl⟩ : ∃ n', n = n' + 1 := ⟨n - 1, by omega⟩
      have ih := fun y3 => uok_l0 s hs n k y3 (wrap64 (x4 + 1)) x5 (by rw [w1 h0 (by omega)]; omega) (by rw [w1 h0 (by omega)]; omega) (by rw [w1 h0 (by omega)]; omega) (by omega)
      have hj : ∀ x83, ∃ r, strconv_underscoreOK.j5 (k + 1) s x3 x4 x5 x83 = some r := fun x83 => by
        rw [strconv_underscoreOK.j5]
        repeat' split
        all_goals first | exact ih _ | exact ⟨_, rfl⟩ | omega
      rw [strconv_underscoreOK.l0]
      simp only [strconv_lower.f, Option.bind_some]
      repeat' split
      all_goals first | exact hj _ | omega
    · rw [strconv_underscoreOK.l0]
      rw [if_neg hl]
      exact ⟨_, rfl⟩

theorem uok_tot (s : ByteArray) (hs : s.size ≤ 1000) : ∃ r, strconv_underscoreOK.f 5000 s = some r := by
  have h3 : ∀ (t : ByteArray) (x3 x4 : Int) (x5 : Bool), t.size ≤ 1000 → 0 ≤ x4 → x4 ≤ t.size → ∃ r, strconv_underscoreOK.j3 (4996 + 1) t x3 x4 x5 = some r := fun t x3 x4 x5 ht h0 h1 => by
    rw [strconv_underscoreOK.j3]
    exact uok_l0 t ht 1000 4996 _ _ _ h0 h1 (by omega) (by omega)
  have h2 : ∀ (t : ByteArray) (x46 : Bool), t.size ≤ 1000 → (x46 = true → 2 ≤ t.size) → ∃ r, strconv_underscoreOK.j2 (4997 + 1) t 94 0 false x46 = some r := fun t x46 ht hx => by
    rw [strconv_underscoreOK.j2]
    simp only [strconv_lower.f, Option.bind_some]
    cases x46 with
    | false => exact h3 _ _ _ _ ht (by omega) (by omega)
    | true =>
      have := hx rfl
      rw [if_pos rfl, if_pos (by omega)]
      exact h3 _ _ _ _ ht (by omega) (by omega)
  have h1 : ∀ t : ByteArray, t.size ≤ 1000 → ∃ r, strconv_underscoreOK.j1 (4998 + 1) t 94 0 = some r := fun t ht => by
    rw [strconv_underscoreOK.j1]
    simp only [strconv_lower.f, Option.bind_some]
    repeat' split
    all_goals first | exact h2 _ _ ht (fun h => by first | omega | cases h) | omega
  have h0 : ∀ b : Bool, (b = true → 1 ≤ s.size) → ∃ r, strconv_underscoreOK.j0 (4999 + 1) s 94 0 b = some r := fun b hb => by
    rw [strconv_underscoreOK.j0]
    cases b with
    | false => exact h1 _ hs
    | true =>
      have := hb rfl
      rw [if_pos rfl, if_pos (by omega)]
      refine h1 _ ?_
      simp
      omega
  unfold strconv_underscoreOK.f
  repeat' split
  all_goals first | exact h0 _ (fun h => by first | omega | cases h) | omega

theorem idx_l0 (s : ByteArray) (hs : s.size ≤ 1000) : ∀ (n k : Nat) (x5 : Int), 0 ≤ x5 → x5 ≤ s.size → (s.size : Int) - x5 ≤ n → n + 1 ≤ k → ∃ r, cast_zzIndex.l0 k s ⟨#[46]⟩ x5 = some r
  | n, k, x5, h0, h1, hn, hk => by
    obtain ⟨k, rfl⟩ : ∃ k', k = k' + 1 := ⟨k - 1, by omega⟩
    have e1 : wrap64 (x5 + (((⟨#[46]⟩ : ByteArray).size : Nat) : Int)) = x5 + 1 := w1 h0 (by omega)
    rw [cast_zzIndex.l0]
    rw [e1]
    by_cases hl : x5 + 1 ≤ (s.size : Int)
    · obtain ⟨n, rfl⟩ : ∃ n', n = n' + 1 := ⟨n - 1, by omega⟩
      rw [if_pos hl, if_pos h0, if_pos (by omega), w1 h0 (by omega)]
      split
      · exact ⟨_, rfl⟩
      · exact idx_l0 s hs n k _ (by omega) (by omega) (by omega) (by omega)
    · rw [if_neg hl]
      exact ⟨_, rfl⟩

theorem num_l1 (s : ByteArray) (hs : s.size ≤ 999) (t : ByteArray) (ht : t.size ≤ 999) : ∀ (n k : Nat) (x4 : Int), 0 ≤ x4 → x4 ≤ s.size → (s.size : Int) - x4 ≤ n → n + 1 ≤ k → ∃ r, cast_zzNumber.l1 k s x4 t = some r ∧ r.1.size ≤ 999
  | n, k, x4, h0, h1, hn, hk => by
    obtain ⟨k, rfl⟩ : ∃ k', k = k' + 1 := ⟨k - 1, by omega⟩
    rw [cast_zzNumber.l1]
    by_cases hl : x4 < (s.size : Int)
    · obtain ⟨n, rfl⟩ : ∃ n', n = n' + 1 := ⟨n - 1, by omega⟩
      rw [if_pos hl, if_pos h0, w1 h0 (by omega)]
      have ih := num_l1 s hs t ht n k (x4 + 1) (by omega) (by omega) (by omega) (by omega)
      repeat' split
      all_goals first | exact ih | exact ⟨_, rfl, ht⟩
    · rw [if_neg hl]
      exact ⟨_, rfl, ht⟩
theorem num_j3 (s : ByteArray) (hs : s.size ≤ 999) (k : Nat) (hk : 1003 ≤ k) (x4 : Int) (h0 : 0 ≤ x4) (h1 : x4 ≤ s.size) : ∃ r, cast_zzNumber.j3 k s x4 = some r ∧ r.1.size ≤ 999 := by
  obtain ⟨k, rfl⟩ : ∃ k', k = k' + 2 := ⟨k - 2, by omega⟩
  have ht : (s.extract 0 x4.toNat).size ≤ 999 := by simp; omega
  have h4 : ∀ b : Bool, (b = true → x4 < s.size) → ∃ r, cast_zzNumber.j4 (k + 1) s x4 (s.extract 0 x4.toNat) b = some r ∧ r.1.size ≤ 999 := fun b hb => by
    rw [cast_zzNumber.j4]
    cases b with
    | false => exact ⟨_, rfl, ht⟩
    | true =>
      have := hb rfl
      rw [if_pos rfl, w1 h0 (by omega)]
      exact num_l1 s hs _ ht 1000 k (x4 + 1) (by omega) (by omega) (by omega) (by omega)
  rw [cast_zzNumber.j3]
  rw [if_pos h0, if_pos h1]
  split
  · exact h4 _ (fun _ => by assumption)
  · exact h4 _ (fun h => by cases h)
theorem num_l0 (s : ByteArray) (hs : s.size ≤ 999) (n : Nat) : ∀ (k : Nat) (x4 : Int), 0 ≤ x4 → x4 ≤ s.size → (s.size : Int) - x4 ≤ n → n + 1003 < k → ∃ r, cast_zzNumber.l0 k s x4 = some r ∧ r.1.size ≤ 999 := by
  induction n with
  | zero =>
    intro k x4 h0 h1 hn hk
    obtain ⟨k, rfl⟩ : ∃ k', k = k' + 1 := ⟨k - 1, by omega⟩
    rw [cast_zzNumber.l0, if_neg (by omega)]
    exact num_j3 s hs k (by omega) x4 h0 h1
  | succ n ih =>
    intro k x4 h0 h1 hn hk
    obtain ⟨k, rfl⟩ : ∃ k', k = k' + 1 := ⟨k - 1, by omega⟩
    have h3 := num_j3 s hs k (by omega) x4 h0 h1
    by_cases hl : x4 < (s.size : Int)
    · have ih := ih k (x4 + 1) (by omega) (by omega) (by omega) (by omega)
      rw [cast_zzNumber.l0, if_pos hl, if_pos h0, w1 h0 (by omega)]
      repeat' split
      all_goals first | exact ih | exact h3
    · rw [cast_zzNumber.l0, if_neg hl]
      exact h3
theorem num_tot (s : ByteArray) (hs : s.size ≤ 999) : ∃ r, cast_zzNumber.f 5000 s = some r ∧ r.1.size ≤ 999 := by
  have h1 : ∀ x4 : Int, 0 ≤ x4 → x4 ≤ s.size → ∃ r, cast_zzNumber.j1 (4998 + 1) s x4 = some r ∧ r.1.size ≤ 999 := fun x4 h0 h1 => by
    rw [cast_zzNumber.j1]
    exact num_l0 s hs 1000 4998 _ h0 h1 (by omega) (by omega)
  have h0 : ∀ b : Bool, (b = true → 1 ≤ s.size) → ∃ r, cast_zzNumber.j0 (4999 + 1) s 0 b = some r ∧ r.1.size ≤ 999 := fun b hb => by
    rw [cast_zzNumber.j0]
    cases b with
    | false => exact h1 _ (by omega) (by omega)
    | true =>
      have := hb rfl
      rw [if_pos rfl, w1 (by omega) (by omega)]
      exact h1 _ (by omega) (by omega)
  unfold cast_zzNumber.f
  repeat' split
  all_goals first | exact h0 _ (fun _ => by omega) | exact h0 _ (fun h => by cases h)

theorem trim_tot (s : ByteArray) (hs : s.size ≤ 900) : ∃ t, cast_trimDecimal.f 5000 s = some t ∧ t.size ≤ 1000 := by
  obtain ⟨i, hi⟩ := idx_l0 s (by omega) 1000 5000 0 (by omega) (by omega) (by omega) (by omega)
  obtain ⟨⟨wh, ok⟩, hn, hw⟩ := num_tot s (by omega)
  have hi' : cast_zzIndex.f 5000 s ⟨#[46]⟩ = some i := hi
  have hj : ∀ b, ∃ t, cast_trimDecimal.j0 (4999 + 1) wh wh b = some t ∧ t.size ≤ 1000 := fun b => by
    rw [cast_trimDecimal.j0]
    have hw : wh.size ≤ 999 := hw
    have e1 : (⟨#[48]⟩ : ByteArray).size = 1 := rfl
    split
    · rw [if_pos (by omega)]
      exact ⟨_, rfl, by rw [ByteArray.size_append, e1]; omega⟩
    · split
      · exact ⟨_, rfl, by rw [e1]; omega⟩
      · exact ⟨_, rfl, by omega⟩
  unfold cast_trimDecimal.f cast_zzContains.f
  rw [hi', Option.bind_some, Option.bind_some, hn]
  split
  · rw [Option.bind_some]
    repeat' split
    all_goals first | exact hj _ | exact ⟨_, rfl, by omega⟩
  · exact ⟨_, rfl, by omega⟩
end Go.Proofs.YtcfknhboicomjaaGreatDoor.Ca
