/- strconv.shortFloat[float64] is shortF. -/
import Derived.Test.YtcfknhboicomjaaGreatDoorFshort
namespace Go.Proofs.YtcfknhboicomjaaGreatDoor.Ft
open Go.RowKit Fy

theorem shortFloat_any {m : Nat} {e : Int} {z : Nat} (h : Sh m e z) (w : World) (ht : TenAt w) :
    Calls Tryz.prog 109 #[.int .u64 m, .int .i64 e] w fun x w' => x = .returned (.tuple #[.int .u64 (shortF m e).1, .int .i64 (shortF m e).2]) ∧ Below w.heap.size w w' := by
  have h2 : (2 : Nat) ^ 64 = 18446744073709551616 := by decide
  have h3 : (2 : Nat) ^ 61 = 2305843009213693952 := by decide
  have h4 : (2 : Nat) ^ 63 = 9223372036854775808 := by decide
  obtain ⟨p, hp⟩ : ∃ p, shP m e = p := ⟨_, rfl⟩
  obtain ⟨S, hS⟩ : ∃ S : Nat, -(e + l2 p + 3) = (S : Int) := ⟨(-(e + l2 p + 3)).toNat, by have := h.s0; rw [hp] at this; omega⟩
  have hm64 := h2 ▸ h.m1
  have hmx64 := h2 ▸ h.mx
  have hul := h3 ▸ h.ul
  have huh := h3 ▸ h.uh
  have hum := h3 ▸ h.um
  have hp0 := h.p0
  have hp1 := h.p1
  have hs1 := h.s1
  rw [hp] at hp0 hp1 hs1
  have hU : ∀ x, shU m e x = usc x (rowOf p).1 (rowOf p).2 S := fun x => by unfold shU; rw [hp, hS]; rfl
  have hmnle : shMin m e < 18446744073709551616 := by
    have a := Nat.sub_le m (2 ^ (shZ e - 2))
    have b := Nat.sub_le m (2 ^ (shZ e - 1))
    unfold shMin; split
    · exact Nat.lt_of_le_of_lt a hm64
    · exact Nat.lt_of_le_of_lt b hm64
  have key : Calls Tryz.prog 109 #[.int .u64 m, .int .i64 e] w fun x w' => x = .returned (.tuple #[.int .u64 (if shLo m e ≤ shHi m e / 10 * 10 then shHi m e / 10 else if shLo m e < shHi m e then rnd (shU m e m) else shLo m e : Nat), .int .i64 (if shLo m e ≤ shHi m e / 10 * 10 then 1 - p else -p)]) ∧ Below w.heap.size w w' := by
    have hz := h.hz
    by_cases c1 : -1085 ≤ e
    · have hz11 : z = 11 := by rw [← hz]; unfold shZ; rw [if_pos c1]
      by_cases c2 : m = 9223372036854775808
      · by_cases c3 : -1085 < e
        · have hsk : shSk m e = true := by unfold shSk; exact decide_eq_true ⟨by omega, c3⟩
          have hpp : sk (e + 11) = -p := by rw [← hp]; unfold shP; rw [hsk, if_pos rfl, hz, hz11]; simp
          exact short_A m e p z (shMin m e) (shMax m e) (shOdd m e) S (shU m e (shMin m e)) (shU m e (shMax m e)) (shU m e m) _ _ _ _ _ hm64 hp0 hp1 h.e0 h.e1 hS (by omega) hmnle hmx64 (by unfold shOdd; rw [hz]) (hU _).symm (hU _).symm (hU _).symm hul huh hum h.uo rfl rfl rfl rfl rfl
            (by unfold shMin; rw [hsk, if_pos rfl, hz]) (by unfold shMax; rw [hz]) h.mn hz11 c2 c3 hpp w ht
        · have hsk : shSk m e = false := by unfold shSk; exact decide_eq_false (by omega)
          have hpp : lg (e + 11) = -p := by rw [← hp]; unfold shP; rw [hsk, if_neg (by simp), hz, hz11]; simp
          exact short_Bt m e p z (shMin m e) (shMax m e) (shOdd m e) S (shU m e (shMin m e)) (shU m e (shMax m e)) (shU m e m) _ _ _ _ _ hm64 hp0 hp1 h.e0 h.e1 hS (by omega) hmnle hmx64 (by unfold shOdd; rw [hz]) (hU _).symm (hU _).symm (hU _).symm hul huh hum h.uo rfl rfl rfl rfl rfl
            (by unfold shMin; rw [hsk, if_neg (by simp), hz]) (by unfold shMax; rw [hz]) h.mn hz11 c1 hpp c2 (by omega) w ht
      · have hsk : shSk m e = false := by unfold shSk; exact decide_eq_false (by omega)
        have hpp : lg (e + 11) = -p := by rw [← hp]; unfold shP; rw [hsk, if_neg (by simp), hz, hz11]; simp
        exact short_Bf m e p z (shMin m e) (shMax m e) (shOdd m e) S (shU m e (shMin m e)) (shU m e (shMax m e)) (shU m e m) _ _ _ _ _ hm64 hp0 hp1 h.e0 h.e1 hS (by omega) hmnle hmx64 (by unfold shOdd; rw [hz]) (hU _).symm (hU _).symm (hU _).symm hul huh hum h.uo rfl rfl rfl rfl rfl
          (by unfold shMin; rw [hsk, if_neg (by simp), hz]) (by unfold shMax; rw [hz]) h.mn hz11 c1 hpp c2 w ht
    · have hsk : shSk m e = false := by unfold shSk; exact decide_eq_false (by omega)
      have hzq : z = 11 + (-1085 - e).toNat := by
        rw [← hz]; unfold shZ; rw [if_neg c1]; omega
      have hpp : lg (e + z) = -p := by rw [← hp]; unfold shP; rw [hsk, if_neg (by simp), hz]; simp
      by_cases c2 : m = 9223372036854775808
      · exact short_Ct m e p z (shMin m e) (shMax m e) (shOdd m e) S (shU m e (shMin m e)) (shU m e (shMax m e)) (shU m e m) _ _ _ _ _ hm64 hp0 hp1 h.e0 h.e1 hS (by omega) hmnle hmx64 (by unfold shOdd; rw [hz]) (hU _).symm (hU _).symm (hU _).symm hul huh hum h.uo rfl rfl rfl rfl rfl
          (by unfold shMin; rw [hsk, if_neg (by simp), hz]) (by unfold shMax; rw [hz]) h.mn (-1085 - e).toNat (e + z) (by omega) hzq h.z63 rfl (by omega) hpp c2 w ht
      · exact short_Cf m e p z (shMin m e) (shMax m e) (shOdd m e) S (shU m e (shMin m e)) (shU m e (shMax m e)) (shU m e m) _ _ _ _ _ hm64 hp0 hp1 h.e0 h.e1 hS (by omega) hmnle hmx64 (by unfold shOdd; rw [hz]) (hU _).symm (hU _).symm (hU _).symm hul huh hum h.uo rfl rfl rfl rfl rfl
          (by unfold shMin; rw [hsk, if_neg (by simp), hz]) (by unfold shMax; rw [hz]) h.mn (-1085 - e).toNat (e + z) (by omega) hzq h.z63 rfl (by omega) hpp c2 w ht
  refine key.mono fun x w' hx => ⟨?_, hx.2⟩
  rw [hx.1]
  unfold shortF
  rw [hp]
  by_cases k1 : shLo m e ≤ shHi m e / 10 * 10
  · simp only [if_pos k1]
  · simp only [if_neg k1]
    by_cases k2 : shLo m e < shHi m e
    · simp only [if_pos k2]
    · simp only [if_neg k2]
end Go.Proofs.YtcfknhboicomjaaGreatDoor.Ft
