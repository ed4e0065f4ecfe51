/- The walk of strconv's ParseUint at base 0, a text of the make 'dec'. -/
import Derived.Test.YtcfknhboicomjaaGreatDoorPU
namespace Go.Proofs.YtcfknhboicomjaaGreatDoor.Ca
open Go.RowKit

set_option maxHeartbeats 6400000 in
set_option maxRecDepth 100000 in
theorem pu_dec (s t : ByteArray) (okS : Bool) (hO : OkS s okS) (hmax : t.size ≤ 1000) (h0 : 0 < s.size) (hz : s[0].toNat ≠ 48) (ht : t = s) (w : World) :
    Calls Tryz.prog 90 #[.string s, .int .i64 0, .int .i64 0] w fun e w' => e = .returned (uTup (puEnd okS (puRun 10 1844674407370955162 0 false t.data.toList))) ∧ Below w.heap.size w w' := by
  have hemp := nonempty h0
  subst ht
  have hz : (((t[0]'h0).toNat : Int) == 48) = false := by simp; omega
  have hcv := Lib.run_convert_string_bytes (P := Tryz.prog) w 9 77 5 t (u := .string) Tryz.underlying9 Tryz.underlying77 Tryz.underlying5
  have hB : ∀ j, j < t.size → (Lib.bytesWorld w 5 t).cell? ⟨w.heap.size, j, none⟩ = some (.int .u8 (t.data.toList.getD j 0).toNat) := fun j hj => Lib.bytesWorld_cell w 5 t j hj
  have hbel := below_bytes w 5 t
  obtain ⟨W1, hW1⟩ : ∃ W1, W1 = Lib.bytesWorld w 5 t := ⟨_, rfl⟩
  rw [← hW1] at hcv hB hbel
  clear hW1
  obtain ⟨bs, hL⟩ : ∃ bs, bs = t.data.toList := ⟨_, rfl⟩
  have hLn : bs.length = t.size := by rw [hL, Lib.size_eq]
  rw [← hL]
  rw [← hL] at hB
  clear hL
  have hU := Lib.hid hO
  clear hO
  have hmv : IntKind.u64.wrap (IntKind.u64.wrap 18446744073709551616 - 1) = 18446744073709551615 := by
    rw [IntKind.wrap_u64, IntKind.wrap_u64]
    decide
  have hkk := trivial
  obtain ⟨R, hR⟩ : ∃ R, R = puRun 10 1844674407370955162 0 false bs := ⟨_, rfl⟩
  rw [← hR]
  go_enter Tryz.func90, Tryz.ntmps90
  go_wp2
  go_loop [12, 13, 101] (fun vu vn vi => ∃ (k acc : Nat) (a : Int) (u : Bool), vu = .bool u ∧ vn = .int .u64 a ∧ vi = .int .i64 k ∧ k ≤ t.size ∧ Hid (a = (acc : Int) ∧ acc < 18446744073709551616 ∧ R = puRun 10 1844674407370955162 acc u (bs.drop k)))
    (fun _ _ vi => t.size - (intOf vi).toNat)
  case atStart => exact ⟨0, 0, 0, false, rfl, rfl, rfl, by omega, rfl, by omega, hR⟩
  case round =>
    obtain ⟨k, acc, a, u, rfl, rfl, rfl, hk, hh⟩ := hrel
    obtain ⟨ha, hacc, hdec⟩ := hh.out
    clear hh hR
    have a0 : 0 ≤ a := by omega
    have a1 : a < 18446744073709551616 := by omega
    by_cases hkn : k < t.size
    · have hc := hB k hkn
      have hdrop : bs.drop k = bs[k]'(by omega) :: bs.drop (k + 1) := List.drop_eq_getElem_cons (by omega)
      have hget : bs.getD k 0 = bs[k]'(by omega) := by simp [List.getD, List.getElem?_eq_getElem (show k < bs.length by omega)]
      rw [hdrop] at hdec
      rw [hget] at hc
      generalize bs[k]'(by omega) = c at hc hdec
      have hc256 : c.toNat < 256 := c.toNat_lt
      have hlow := fun W => low_any c W
      clear hB hdrop hget hkk
      by_cases h95 : c.toNat = 95
      · have HN : Hid (a = (acc : Int) ∧ acc < 18446744073709551616 ∧ R = puRun 10 1844674407370955162 acc true (bs.drop (k + 1))) := Lib.hid ⟨ha, hacc, hdec.trans (run_u 10 1844674407370955162 acc u c _ h95)⟩
        have e95 : (c.toNat : Int) = 95 := by omega
        rw [e95] at hc
        clear hdec ha hacc e95 h95 hlow
        go_wp2
        refine ⟨⟨k + 1, acc, a, true, rfl, rfl, (by first | rfl | (congr 1; omega)), by omega, HN⟩, by simp [intOf]; omega⟩
      · have h95i : (c.toNat : Int) ≠ 95 := by omega
        by_cases hnd : 48 ≤ c.toNat ∧ c.toNat ≤ 57
        · obtain ⟨hd0, hd1⟩ := hnd
          have hdg := digW_dig c hd0 hd1
          obtain ⟨d, hdd⟩ : ∃ d, d = c.toNat - 48 := ⟨_, rfl⟩
          rw [← hdd] at hdg
          by_cases hbig : 10 ≤ d
          · have HD := Lib.hid (hdec.trans (run_big 10 1844674407370955162 acc u c _ d h95 hdg hbig))
            clear hdec hdg ha hacc
            have hbi : 58 ≤ (c.toNat : Int) := by omega
            clear hdd hbig
            exfalso; omega
          · have hbi : (c.toNat : Int) < 58 := by omega
            by_cases hcut : 1844674407370955162 ≤ acc
            · have HD := Lib.hid (hdec.trans (run_cut 10 1844674407370955162 acc u c _ d h95 hdg (by omega) hcut))
              have icut : 1844674407370955162 ≤ a := by omega
              clear hdec hdg ha hacc hcut hdd hbig
              go_wp2
              all_goals go_ret2
              all_goals exact ⟨by rw [HD.out]; rfl, hbel⟩
            · have icut : a < 1844674407370955162 := by omega
              by_cases hov : 18446744073709551616 ≤ acc * 10 + d
              · have HD := Lib.hid (hdec.trans (run_over 10 1844674407370955162 acc u c _ d h95 hdg (by omega) hov))
                have iov : 18446744073709551616 ≤ a * 10 + ((c.toNat : Int) - 48) := by omega
                have hwr : IntKind.u64.wrap (a * 10 + ((c.toNat : Int) - 48)) = a * 10 + ((c.toNat : Int) - 48) - 18446744073709551616 := by rw [IntKind.wrap_u64]; omega
                clear hdec hdg ha hacc hcut hdd hbig hov
                go_wp2
                all_goals go_ret2
                all_goals exact ⟨by rw [HD.out]; rfl, hbel⟩
              · have HN : Hid (a * 10 + ((c.toNat : Int) - 48) = ((acc * 10 + d : Nat) : Int) ∧ acc * 10 + d < 18446744073709551616 ∧ R = puRun 10 1844674407370955162 (acc * 10 + d) u (bs.drop (k + 1))) := Lib.hid ⟨by omega, by omega, hdec.trans (run_on 10 1844674407370955162 acc u c _ d h95 hdg (by omega) (by omega) (by omega))⟩
                have iov : a * 10 + ((c.toNat : Int) - 48) < 18446744073709551616 := by omega
                clear hdec hdg ha hacc hcut hdd hbig hov
                go_wp2
                all_goals refine ⟨⟨k + 1, acc * 10 + d, a * 10 + ((c.toNat : Int) - 48), u, rfl, (by first | rfl | (congr 1; omega)), (by first | rfl | (congr 1; omega)), by omega, HN⟩, by simp [intOf]; omega⟩
        · have hvl := low_lo c
          have hvh := low_hi c
          by_cases hlt : 97 ≤ low c ∧ low c ≤ 122
          · obtain ⟨hv0, hv1⟩ := hlt
            have hni : (c.toNat : Int) < 48 ∨ 57 < (c.toNat : Int) := by omega
            have hdg := digW_let c hnd hv0 hv1
            obtain ⟨d, hdd⟩ : ∃ d, d = (low c).toNat - 87 := ⟨_, rfl⟩
            rw [← hdd] at hdg
            generalize low c = v at hlow hv0 hv1 hdd
            by_cases hbig : 10 ≤ d
            · have HD := Lib.hid (hdec.trans (run_big 10 1844674407370955162 acc u c _ d h95 hdg hbig))
              clear hdec hdg ha hacc
              have hbi : 97 ≤ v := by omega
              clear hdd hbig
              go_wp2_with (go_at_call 114; refine (hlow _).mono ?_; rintro e wl ⟨rfl, rfl⟩)
              all_goals go_ret2
              all_goals exact ⟨by rw [HD.out]; rfl, hbel⟩
            · exfalso; omega
          · have HD := Lib.hid (hdec.trans (run_none 10 1844674407370955162 acc u c _ h95 (digW_none c hnd hlt)))
            have hni : (c.toNat : Int) < 48 ∨ 57 < (c.toNat : Int) := by omega
            have hli : low c < 97 ∨ 122 < low c := by omega
            generalize low c = v at hlow hvl hvh hli
            clear hdec ha hacc hnd hlt h95
            rcases hni with hni | hni <;> rcases hli with hli | hli
            all_goals go_wp2_with (go_at_call 114; refine (hlow _).mono ?_; rintro e wl ⟨rfl, rfl⟩)
            all_goals go_ret2
            all_goals exact ⟨by rw [HD.out]; rfl, hbel⟩
    · obtain rfl : k = t.size := by omega
      rw [List.drop_eq_nil_of_le (by omega)] at hdec
      subst ha
      have HD := Lib.hid (hdec.trans (show puRun 10 1844674407370955162 acc u [] = .ok (acc, u) from rfl))
      clear hdec hacc a0 a1
      cases u with
      | false =>
        go_wp2
        go_ret2
        exact ⟨by rw [HD.out]; rfl, hbel⟩
      | true =>
        have hu := hU.out
        unfold OkS at hu
        cases okS with
        | false =>
          go_wp2_with (go_at_call 115; refine (hu _).mono ?_; rintro e wu ⟨rfl, hbu⟩)
          go_ret2
          exact ⟨by rw [HD.out]; rfl, hbel.trans (hbu.mono hbel.size)⟩
        | true =>
          go_wp2_with (go_at_call 115; refine (hu _).mono ?_; rintro e wu ⟨rfl, hbu⟩)
          go_ret2
          exact ⟨by rw [HD.out]; rfl, hbel.trans (hbu.mono hbel.size)⟩

end Go.Proofs.YtcfknhboicomjaaGreatDoor.Ca
