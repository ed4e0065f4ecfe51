/- What readFloat and special answer at the text of a float. -/
import Derived.Test.YtcfknhboicomjaaGreatDoorFrd2
import Derived.Test.YtcfknhboicomjaaGreatDoorFrd3
import Derived.Test.YtcfknhboicomjaaGreatDoorFat
namespace Go.Proofs.YtcfknhboicomjaaGreatDoor.Ft
open Go.RowKit Fy

theorem good_bytes (l : List Int) : ∀ r : Rd, r.good l → ∀ c ∈ l, 46 ≤ c ∧ c ≤ 57 := by
  induction l with
  | nil => intro _ _ c hc; cases hc
  | cons a l ih =>
    intro r h c hc
    rcases List.mem_cons.1 hc with rfl | hc
    · rcases h.1 with h | h <;> omega
    · exact ih _ h.2 c hc
theorem str_get (l : List Int) (hl : ∀ c ∈ l, 0 ≤ c ∧ c < 256) (i : Nat) (h : i < (strOfNums l).size) : (((strOfNums l)[i]'h).toNat : Int) = l.getD i 0 := by
  have hi : i < l.length := by rw [strOfNums_size] at h; exact h
  have e : (strOfNums l)[i]'h = UInt8.ofNat (l[i]'hi).toNat := by
    show (strOfNums l).data[i] = _
    simp [strOfNums]
  have hb := hl _ (List.getElem_mem hi)
  rw [e, List.getD_eq_getElem?_getD, List.getElem?_eq_getElem hi]
  simp [UInt8.toNat_ofNat]
  omega

theorem reads_pos (body : List Int) (hf : Front body) (hg : Rd.start.good body) (hd : (Rd.start.run body).dig = true) (hn : body.length ≤ 80000) : Reads (strOfNums body) (Rd.start.run body).m (Rd.start.run body).exp false := by
  obtain ⟨c, r, hb, hc0, hc1, hc2⟩ := hf
  have hby := good_bytes body _ hg
  have hget := str_get body (fun c hc => by have := hby c hc; omega)
  have hsz := strOfNums_size body
  have hpos : 0 < (strOfNums body).size := by rw [hsz, hb]; simp
  have h0 : (((strOfNums body)[0]'hpos).toNat : Int) = c := by rw [hget 0 hpos, hb]; rfl
  obtain ⟨s, hs⟩ : ∃ s, strOfNums body = s := ⟨_, rfl⟩
  simp only [hs] at hget hsz hpos h0 ⊢
  obtain ⟨n, hnn⟩ : ∃ n, s.size = n := ⟨_, rfl⟩
  refine ⟨fun w => special_dig s c hpos h0 hc0 hc1 w, fun w => ?_⟩
  rw [hnn]
  by_cases hA : n ≤ 2
  · exact rd_posA s body n c hnn (by omega) hpos h0 hc0 hc1 (by omega) hA hget hg hd w
  · by_cases h48 : c = 48
    · rcases hc2 h48 with hr | ⟨r', hr⟩
      · rw [hr] at hb
        rw [hb] at hsz
        simp at hsz
        omega
      · have h1 : 1 < s.size := by omega
        exact rd_posC s body n c hnn (by omega) hpos h0 hc0 hc1 (by omega) (by omega) h48 h1 (by rw [hget 1 h1, hb, hr]; rfl) hget hg hd w
    · exact rd_posB s body n c hnn (by omega) hpos h0 hc0 hc1 (by omega) (by omega) (by omega) hget hg hd w

theorem reads_neg (body : List Int) (hf : Front body) (hg : Rd.start.good body) (hd : (Rd.start.run body).dig = true) (hn : body.length ≤ 80000) : Reads (strOfNums (45 :: body)) (Rd.start.run body).m (Rd.start.run body).exp true := by
  obtain ⟨c, r, hb, hc0, hc1, hc2⟩ := hf
  have hby := good_bytes body _ hg
  have hget := str_get (45 :: body) (fun c hc => by
    rcases List.mem_cons.1 hc with rfl | hc
    · omega
    · have := hby c hc; omega)
  have hsz := strOfNums_size (45 :: body)
  have hpos : 0 < (strOfNums (45 :: body)).size := by rw [hsz]; simp
  have hpos1 : 1 < (strOfNums (45 :: body)).size := by rw [hsz, hb]; simp
  have hm : (((strOfNums (45 :: body))[0]'hpos).toNat : Int) = 45 := by rw [hget 0 hpos]; rfl
  have h0 : (((strOfNums (45 :: body))[1]'hpos1).toNat : Int) = c := by rw [hget 1 hpos1, hb]; rfl
  obtain ⟨s, hs⟩ : ∃ s, strOfNums (45 :: body) = s := ⟨_, rfl⟩
  simp only [hs] at hget hsz hpos hpos1 h0 hm ⊢
  rw [List.length_cons] at hsz
  obtain ⟨n, hnn⟩ : ∃ n, s.size = n := ⟨_, rfl⟩
  have hget1 : ∀ i (h : i + 1 < s.size), ((s[i + 1]'h).toNat : Int) = body.getD i 0 := fun i h => by rw [hget (i + 1) h]; rfl
  refine ⟨fun w => special_neg s c hpos hpos1 hm h0 hc1 w, fun w => ?_⟩
  rw [hnn]
  by_cases hA : n ≤ 3
  · exact rd_negA s body n c hnn (by omega) hpos1 hpos hm h0 hc0 hc1 (by omega) hA hget1 hg hd w
  · by_cases h48 : c = 48
    · rcases hc2 h48 with hr | ⟨r', hr⟩
      · rw [hr] at hb
        rw [hb] at hsz
        simp at hsz
        omega
      · have h1 : 2 < s.size := by omega
        exact rd_negC s body n c hnn (by omega) hpos1 hpos hm h0 hc0 hc1 (by omega) (by omega) h48 h1 (by rw [hget 2 h1, hb, hr]; rfl) hget1 hg hd w
    · exact rd_negB s body n c hnn (by omega) hpos1 hpos hm h0 hc0 hc1 (by omega) (by omega) (by omega) hget1 hg hd w
theorem reads_any (neg : Bool) (body : List Int) (hf : Front body) (hg : Rd.start.good body) (hd : (Rd.start.run body).dig = true) (hn : body.length ≤ 80000) : Reads (strOfNums (sgn neg ++ body)) (Rd.start.run body).m (Rd.start.run body).exp neg := by
  cases neg
  · exact reads_pos body hf hg hd hn
  · exact reads_neg body hf hg hd hn

/-- Zero. -/
theorem par_zero (neg : Bool) : Par (strOfNums (sgn neg ++ [48])) (sbit neg) := by
  have h := reads_any neg [48] ⟨48, [], rfl, by decide, by decide, fun _ => .inl rfl⟩ ⟨.inr ⟨by decide, by decide, .inl rfl⟩, trivial⟩ rfl (by decide)
  intro w hv _
  exact (atof_zero _ _ neg h w hv).mono fun e w' h => ⟨h.1, h.2 ▸ Below.refl _ _⟩
end Go.Proofs.YtcfknhboicomjaaGreatDoor.Ft
