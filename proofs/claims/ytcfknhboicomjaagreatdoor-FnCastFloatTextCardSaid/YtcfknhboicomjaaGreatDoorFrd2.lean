/- The walk of strconv's readFloat (printed by wip/frd.py). -/
import Derived.Test.YtcfknhboicomjaaGreatDoorFrd
import Derived.Deep.LoopGhost
namespace Go.Proofs.YtcfknhboicomjaaGreatDoor.Ft
open Go.RowKit Fy

set_option maxRecDepth 100000 in
set_option maxHeartbeats 8000000 in
theorem rd_posA (s : ByteArray) (body : List Int) (n : Nat) (c0 : Int) (hsz : s.size = n) (hlen : body.length + 0 = n) (h0 : 0 < s.size) (hc0 : ((s[0]'h0).toNat : Int) = c0) (hlo : 48 ≤ c0) (hb : c0 ≤ 57) (hn : n ≤ 90000) (hA : n ≤ 2)
    (hget : ∀ i (h : i + 0 < s.size), ((s[i + 0]'h).toNat : Int) = body.getD i 0) (hg : Rd.start.good body) (hdig : (Rd.start.run body).dig = true) (w : World) :
    Calls Tryz.prog 144 #[.string s] w fun e w' => e = .returned (.tuple #[.int .u64 ((Rd.start.run body).m : Nat), .int .i64 (Rd.start.run body).exp, .bool false, .bool false, .bool false, .int .i64 n, .bool true]) ∧ w' = w := by
  have HG := Lib.hid hget
  obtain ⟨R, hR⟩ : ∃ R, Rd.start.run body = R := ⟨_, rfl⟩
  rw [hR] at hdig ⊢
  have HR := Lib.hid (show Rd.ok Rd.start 0 ∧ Rd.start.good (body.drop 0) ∧ Rd.start.run (body.drop 0) = R from ⟨Rd.ok_start, hg, hR⟩)
  have HD := Lib.hid hdig
  have e1 : (c0 == 43) = false := by simp; omega
  have e2 : (c0 == 45) = false := by simp; omega
  have e4 : decide ((2 : Int) < (n : Int)) = false := decide_eq_false (by omega)
  have e5 : decide ((n : Int) ≤ 0) = false := decide_eq_false (by omega)
  have e6 : (0 : Int) < (n : Int) := by omega
  have e7 : (0 : Int) < (n : Int) := by omega
  clear hg hR hget hdig
  go_enter Tryz.func144, Tryz.ntmps144
  go_wp2
  go_step3
  go_wp2_with (go_at_call 114; (with_reducible refine (lower46 _).mono ?_); rintro e w1 ⟨rfl, rfl⟩)
  go_step3
  go_wp2
  have Hlen := Lib.hid hlen
  clear hlen
  clear e1 e2 e4 e5 e6 e7 hlo hb hc0
  go_loop [2, 5, 7, 9, 13, 14, 15, 16, 17] (fun vm vt vi vu vd vg vn vk vp => ∃ (k m nd nm : Nat) (i dp : Int) (dot dig : Bool), vm = .int .u64 m ∧ vt = .bool false ∧ vi = .int .i64 i ∧ vu = .bool false ∧ vd = .bool dot ∧ vg = .bool dig ∧ vn = .int .i64 nd ∧ vk = .int .i64 nm ∧ vp = .int .i64 dp ∧ Hid (i = (k : Int) + 0 ∧ k + 0 ≤ n) ∧ Hid (Rd.ok ⟨m, nd, nm, dp, dot, dig⟩ k ∧ Rd.good ⟨m, nd, nm, dp, dot, dig⟩ (body.drop k) ∧ Rd.run ⟨m, nd, nm, dp, dot, dig⟩ (body.drop k) = R)) (fun _ _ vi _ _ _ _ _ _ => n - (intOf vi).toNat)
  case atStart => exact ⟨0, 0, 0, 0, 0, 0, false, false, rfl, rfl, rfl, rfl, rfl, rfl, rfl, rfl, rfl, ⟨by omega, by omega⟩, HR⟩
  case round =>
    obtain ⟨k, m, nd, nm, i, dp, dot, dig, rfl, rfl, rfl, rfl, rfl, rfl, rfl, rfl, rfl, HI, HK⟩ := hrel
    obtain ⟨hi, hk⟩ := HI.out
    have hlen := Hlen.out
    obtain ⟨hok, hgd, hrn⟩ := HK.out
    have o1 : nd ≤ k := hok.nd
    have o2 : nm ≤ 19 := hok.nm
    have o3 : nm ≤ nd := hok.nn
    have o4 : m < 10 ^ nm := hok.m
    have o5 : -(k : Int) ≤ dp := hok.d0
    have o6 : dp ≤ k := hok.d1
    have hm19 : m < 10000000000000000000 := Nat.lt_of_lt_of_le o4 (Nat.pow_le_pow_right (n := 10) (by omega) o2)
    have hi0 : 0 ≤ i := by omega
    have hi1 : i ≤ (n : Int) := by omega
    have hi2 : i.toNat = k + 0 := by omega
    clear HK HR
    by_cases hlt : k + 0 < n
    · obtain ⟨c, hcq⟩ : ∃ c, body[k]? = some c := ⟨_, List.getElem?_eq_getElem (show k < body.length by omega)⟩
      have hdrop : body.drop k = c :: body.drop (k + 1) := by
        obtain ⟨hj, hc⟩ := List.getElem?_eq_some_iff.1 hcq
        rw [← hc]; exact List.drop_eq_getElem_cons (by omega)
      rw [hdrop] at hgd hrn
      have hck0 : ∀ h, ((s[k + 0]'h).toNat : Int) = c := fun h => by
        rw [HG.out k h]
        rw [List.getD_eq_getElem?_getD, hcq]; rfl
      have hck : ∀ h : i.toNat < s.size, ((s[i.toNat]'h).toNat : Int) = c := by
        rw [hi2]
        exact hck0
      have hiL : i < (n : Int) := by omega
      have o7 : nd ≤ 90000 := by omega
      have o8 : -90000 ≤ dp := by omega
      have o9 : dp ≤ 90000 := by omega
      have Hlt := Lib.hid hlt
      clear hlen hck0 hcq hi hi2 hk hlt
      have hok2 := hok.step hgd.1
      have hgd2 := hgd.2
      rw [Rd.run_cons] at hrn
      rcases Rd.fits_cases hgd.1 with ⟨q1, q2, q3⟩ | ⟨q1, q2, q3⟩ | ⟨q1, q2, q4, q3⟩ | ⟨q1, q2, q4, q3⟩ | ⟨q1, q2, q4, q3⟩
      all_goals rw [q3] at hok2 hgd2 hrn
      · have HN := Lib.hid (show _ ∧ _ ∧ _ from ⟨hok2, hgd2, hrn⟩)
        subst q1 q2
        clear hgd hok2 hgd2 hrn hok q3 hdrop o4 hm19
        skip
        go_wp2
        exact ⟨⟨k + 1, m, nd, nm, i + 1, nd, true, dig, rfl, rfl, rfl, rfl, rfl, rfl, rfl, rfl, rfl, ⟨by have := HI.out; omega, by have := Hlt.out; omega⟩, HN⟩, by have := HI.out; have := Hlt.out; simp [intOf]; omega⟩
      · have HN := Lib.hid (show _ ∧ _ ∧ _ from ⟨hok2, hgd2, hrn⟩)
        subst q1 q2
        clear hgd hok2 hgd2 hrn hok q3 hdrop o4 hm19
        skip
        go_wp2
        exact ⟨⟨k + 1, m, 0, nm, i + 1, dp - 1, dot, true, rfl, rfl, rfl, rfl, rfl, rfl, rfl, rfl, rfl, ⟨by have := HI.out; omega, by have := Hlt.out; omega⟩, HN⟩, by have := HI.out; have := Hlt.out; simp [intOf]; omega⟩
      · have HN := Lib.hid (show _ ∧ _ ∧ _ from ⟨hok2, hgd2, hrn⟩)
        have hm18 : m < 1000000000000000000 := Nat.lt_of_lt_of_le o4 (Nat.pow_le_pow_right (n := 10) (by omega) (show nm ≤ 18 by omega))
        have z1 : ((nd : Int) == 0) = false := by simp; omega
        subst q1
        clear hgd hok2 hgd2 hrn hok q3 hdrop o4 hm19
        skip
        go_wp2
        exact ⟨⟨k + 1, m * 10, nd + 1, nm + 1, i + 1, dp, dot, true, (by first | rfl | (congr 1; omega)), rfl, (by first | rfl | (congr 1; omega)), rfl, rfl, rfl, (by first | rfl | (congr 1; omega)), (by first | rfl | (congr 1; omega)), rfl, ⟨by have := HI.out; omega, by have := Hlt.out; omega⟩, HN⟩, by have := HI.out; have := Hlt.out; simp [intOf]; omega⟩
      · have HN := Lib.hid (show _ ∧ _ ∧ _ from ⟨hok2, hgd2, hrn⟩)
        have hm18 : m < 1000000000000000000 := Nat.lt_of_lt_of_le o4 (Nat.pow_le_pow_right (n := 10) (by omega) (show nm ≤ 18 by omega))
        have z1 : (c == 48) = false := by simp; omega
        have z2 : (c == 46) = false := by simp; omega
        have z3 : (c == 95) = false := by simp; omega
        have z4 : decide (48 ≤ c) = true := decide_eq_true (by omega)
        have z5 : decide (c ≤ 57) = true := decide_eq_true (by omega)
        obtain ⟨d, hd⟩ : ∃ d, (c - 48).toNat = d := ⟨_, rfl⟩
        rw [hd] at HN
        have z6 : IntKind.u8.wrap (c - 48) = (d : Int) := by simp [IntKind.wrap, IntKind.bits, IntKind.signed]; omega
        have z7 : d ≤ 9 := by omega
        clear hgd hok2 hgd2 hrn hok q3 hdrop o4 hm19 hd q1 q2
        skip
        go_wp2
        exact ⟨⟨k + 1, m * 10 + d, nd + 1, nm + 1, i + 1, dp, dot, true, (by first | rfl | (congr 1; omega)), rfl, (by first | rfl | (congr 1; omega)), rfl, rfl, rfl, (by first | rfl | (congr 1; omega)), (by first | rfl | (congr 1; omega)), rfl, ⟨by have := HI.out; omega, by have := Hlt.out; omega⟩, HN⟩, by have := HI.out; have := Hlt.out; simp [intOf]; omega⟩
      · have HN := Lib.hid (show _ ∧ _ ∧ _ from ⟨hok2, hgd2, hrn⟩)
        have z1 : ((nd : Int) == 0) = false := by simp; omega
        have z2 : decide ((nm : Int) < 19) = false := decide_eq_false (by omega)
        subst q1
        clear hgd hok2 hgd2 hrn hok q3 hdrop o4 hm19
        skip
        go_wp2
        exact ⟨⟨k + 1, m, nd + 1, nm, i + 1, dp, dot, true, rfl, rfl, (by first | rfl | (congr 1; omega)), rfl, rfl, rfl, (by first | rfl | (congr 1; omega)), rfl, rfl, ⟨by have := HI.out; omega, by have := Hlt.out; omega⟩, HN⟩, by have := HI.out; have := Hlt.out; simp [intOf]; omega⟩
    · have hie : i = (n : Int) := by omega
      rw [List.drop_eq_nil_of_le (by omega)] at hrn
      have hrn' : Rd.mk m nd nm dp dot dig = R := hrn
      subst hrn'
      have hdg := HD.out
      have hdg' : dig = true := hdg
      subst hdg' hie
      clear hlen hgd hrn hok HD hlt hi hi0 hi1 hi2 HG hdg o4
      by_cases hm0 : m = 0
      · subst hm0
        have HE : Hid (Rd.exp ⟨0, nd, nm, dp, dot, true⟩ = 0) := by show _ = _; rfl
        cases dot
        · go_wp2
          (try rw [Exit.noGoto_ret]); (try simp only [Exit.inBlock, Exit.then]); refine bodyPost_ret (results_tmp7 rfl _ _ _) rfl ?_
          exact ⟨by rw [HE.out]; rfl, rfl⟩
        · go_wp2
          (try rw [Exit.noGoto_ret]); (try simp only [Exit.inBlock, Exit.then]); refine bodyPost_ret (results_tmp7 rfl _ _ _) rfl ?_
          exact ⟨by rw [HE.out]; rfl, rfl⟩
      · have g0 : ((m : Int) != 0) = true := by simp; omega
        have HE : Hid (Rd.exp ⟨m, nd, nm, dp, dot, true⟩ = (if dot then dp else (nd : Int)) - nm) := by show _ = _; unfold Rd.exp; rw [if_neg hm0]; rfl
        cases dot
        · go_wp2
          (try rw [Exit.noGoto_ret]); (try simp only [Exit.inBlock, Exit.then]); refine bodyPost_ret (results_tmp7 rfl _ _ _) rfl ?_
          exact ⟨by rw [HE.out]; rfl, rfl⟩
        · go_wp2
          (try rw [Exit.noGoto_ret]); (try simp only [Exit.inBlock, Exit.then]); refine bodyPost_ret (results_tmp7 rfl _ _ _) rfl ?_
          exact ⟨by rw [HE.out]; rfl, rfl⟩

set_option maxRecDepth 100000 in
set_option maxHeartbeats 8000000 in
theorem rd_posB (s : ByteArray) (body : List Int) (n : Nat) (c0 : Int) (hsz : s.size = n) (hlen : body.length + 0 = n) (h0 : 0 < s.size) (hc0 : ((s[0]'h0).toNat : Int) = c0) (hlo : 48 ≤ c0) (hb : c0 ≤ 57) (hn : n ≤ 90000) (hA : 2 < n) (ha : 48 < c0)
    (hget : ∀ i (h : i + 0 < s.size), ((s[i + 0]'h).toNat : Int) = body.getD i 0) (hg : Rd.start.good body) (hdig : (Rd.start.run body).dig = true) (w : World) :
    Calls Tryz.prog 144 #[.string s] w fun e w' => e = .returned (.tuple #[.int .u64 ((Rd.start.run body).m : Nat), .int .i64 (Rd.start.run body).exp, .bool false, .bool false, .bool false, .int .i64 n, .bool true]) ∧ w' = w := by
  have HG := Lib.hid hget
  obtain ⟨R, hR⟩ : ∃ R, Rd.start.run body = R := ⟨_, rfl⟩
  rw [hR] at hdig ⊢
  have HR := Lib.hid (show Rd.ok Rd.start 0 ∧ Rd.start.good (body.drop 0) ∧ Rd.start.run (body.drop 0) = R from ⟨Rd.ok_start, hg, hR⟩)
  have HD := Lib.hid hdig
  have e1 : (c0 == 43) = false := by simp; omega
  have e2 : (c0 == 45) = false := by simp; omega
  have e3 : (c0 == 48) = false := by simp; omega
  have e4 : decide ((2 : Int) < (n : Int)) = true := decide_eq_true (by omega)
  have e5 : decide ((n : Int) ≤ 0) = false := decide_eq_false (by omega)
  have e6 : (0 : Int) < (n : Int) := by omega
  have e7 : (0 : Int) < (n : Int) := by omega
  have e8 : (1 : Int) < (n : Int) := by omega
  clear hg hR hget hdig
  go_enter Tryz.func144, Tryz.ntmps144
  go_wp2
  go_step3
  go_wp2_with (go_at_call 114; (with_reducible refine (lower46 _).mono ?_); rintro e w1 ⟨rfl, rfl⟩)
  go_step3
  go_wp2
  have Hlen := Lib.hid hlen
  clear hlen
  clear e1 e2 e4 e5 e6 e7 e8 hlo hb hc0 e3
  go_loop [2, 5, 7, 9, 13, 14, 15, 16, 17] (fun vm vt vi vu vd vg vn vk vp => ∃ (k m nd nm : Nat) (i dp : Int) (dot dig : Bool), vm = .int .u64 m ∧ vt = .bool false ∧ vi = .int .i64 i ∧ vu = .bool false ∧ vd = .bool dot ∧ vg = .bool dig ∧ vn = .int .i64 nd ∧ vk = .int .i64 nm ∧ vp = .int .i64 dp ∧ Hid (i = (k : Int) + 0 ∧ k + 0 ≤ n) ∧ Hid (Rd.ok ⟨m, nd, nm, dp, dot, dig⟩ k ∧ Rd.good ⟨m, nd, nm, dp, dot, dig⟩ (body.drop k) ∧ Rd.run ⟨m, nd, nm, dp, dot, dig⟩ (body.drop k) = R)) (fun _ _ vi _ _ _ _ _ _ => n - (intOf vi).toNat)
  case atStart => exact ⟨0, 0, 0, 0, 0, 0, false, false, rfl, rfl, rfl, rfl, rfl, rfl, rfl, rfl, rfl, ⟨by omega, by omega⟩, HR⟩
  case round =>
    obtain ⟨k, m, nd, nm, i, dp, dot, dig, rfl, rfl, rfl, rfl, rfl, rfl, rfl, rfl, rfl, HI, HK⟩ := hrel
    obtain ⟨hi, hk⟩ := HI.out
    have hlen := Hlen.out
    obtain ⟨hok, hgd, hrn⟩ := HK.out
    have o1 : nd ≤ k := hok.nd
    have o2 : nm ≤ 19 := hok.nm
    have o3 : nm ≤ nd := hok.nn
    have o4 : m < 10 ^ nm := hok.m
    have o5 : -(k : Int) ≤ dp := hok.d0
    have o6 : dp ≤ k := hok.d1
    have hm19 : m < 10000000000000000000 := Nat.lt_of_lt_of_le o4 (Nat.pow_le_pow_right (n := 10) (by omega) o2)
    have hi0 : 0 ≤ i := by omega
    have hi1 : i ≤ (n : Int) := by omega
    have hi2 : i.toNat = k + 0 := by omega
    clear HK HR
    by_cases hlt : k + 0 < n
    · obtain ⟨c, hcq⟩ : ∃ c, body[k]? = some c := ⟨_, List.getElem?_eq_getElem (show k < body.length by omega)⟩
      have hdrop : body.drop k = c :: body.drop (k + 1) := by
        obtain ⟨hj, hc⟩ := List.getElem?_eq_some_iff.1 hcq
        rw [← hc]; exact List.drop_eq_getElem_cons (by omega)
      rw [hdrop] at hgd hrn
      have hck0 : ∀ h, ((s[k + 0]'h).toNat : Int) = c := fun h => by
        rw [HG.out k h]
        rw [List.getD_eq_getElem?_getD, hcq]; rfl
      have hck : ∀ h : i.toNat < s.size, ((s[i.toNat]'h).toNat : Int) = c := by
        rw [hi2]
        exact hck0
      have hiL : i < (n : Int) := by omega
      have o7 : nd ≤ 90000 := by omega
      have o8 : -90000 ≤ dp := by omega
      have o9 : dp ≤ 90000 := by omega
      have Hlt := Lib.hid hlt
      clear hlen hck0 hcq hi hi2 hk hlt
      have hok2 := hok.step hgd.1
      have hgd2 := hgd.2
      rw [Rd.run_cons] at hrn
      rcases Rd.fits_cases hgd.1 with ⟨q1, q2, q3⟩ | ⟨q1, q2, q3⟩ | ⟨q1, q2, q4, q3⟩ | ⟨q1, q2, q4, q3⟩ | ⟨q1, q2, q4, q3⟩
      all_goals rw [q3] at hok2 hgd2 hrn
      · have HN := Lib.hid (show _ ∧ _ ∧ _ from ⟨hok2, hgd2, hrn⟩)
        subst q1 q2
        clear hgd hok2 hgd2 hrn hok q3 hdrop o4 hm19
        skip
        go_wp2
        exact ⟨⟨k + 1, m, nd, nm, i + 1, nd, true, dig, rfl, rfl, rfl, rfl, rfl, rfl, rfl, rfl, rfl, ⟨by have := HI.out; omega, by have := Hlt.out; omega⟩, HN⟩, by have := HI.out; have := Hlt.out; simp [intOf]; omega⟩
      · have HN := Lib.hid (show _ ∧ _ ∧ _ from ⟨hok2, hgd2, hrn⟩)
        subst q1 q2
        clear hgd hok2 hgd2 hrn hok q3 hdrop o4 hm19
        skip
        go_wp2
        exact ⟨⟨k + 1, m, 0, nm, i + 1, dp - 1, dot, true, rfl, rfl, rfl, rfl, rfl, rfl, rfl, rfl, rfl, ⟨by have := HI.out; omega, by have := Hlt.out; omega⟩, HN⟩, by have := HI.out; have := Hlt.out; simp [intOf]; omega⟩
      · have HN := Lib.hid (show _ ∧ _ ∧ _ from ⟨hok2, hgd2, hrn⟩)
        have hm18 : m < 1000000000000000000 := Nat.lt_of_lt_of_le o4 (Nat.pow_le_pow_right (n := 10) (by omega) (show nm ≤ 18 by omega))
        have z1 : ((nd : Int) == 0) = false := by simp; omega
        subst q1
        clear hgd hok2 hgd2 hrn hok q3 hdrop o4 hm19
        skip
        go_wp2
        exact ⟨⟨k + 1, m * 10, nd + 1, nm + 1, i + 1, dp, dot, true, (by first | rfl | (congr 1; omega)), rfl, (by first | rfl | (congr 1; omega)), rfl, rfl, rfl, (by first | rfl | (congr 1; omega)), (by first | rfl | (congr 1; omega)), rfl, ⟨by have := HI.out; omega, by have := Hlt.out; omega⟩, HN⟩, by have := HI.out; have := Hlt.out; simp [intOf]; omega⟩
      · have HN := Lib.hid (show _ ∧ _ ∧ _ from ⟨hok2, hgd2, hrn⟩)
        have hm18 : m < 1000000000000000000 := Nat.lt_of_lt_of_le o4 (Nat.pow_le_pow_right (n := 10) (by omega) (show nm ≤ 18 by omega))
        have z1 : (c == 48) = false := by simp; omega
        have z2 : (c == 46) = false := by simp; omega
        have z3 : (c == 95) = false := by simp; omega
        have z4 : decide (48 ≤ c) = true := decide_eq_true (by omega)
        have z5 : decide (c ≤ 57) = true := decide_eq_true (by omega)
        obtain ⟨d, hd⟩ : ∃ d, (c - 48).toNat = d := ⟨_, rfl⟩
        rw [hd] at HN
        have z6 : IntKind.u8.wrap (c - 48) = (d : Int) := by simp [IntKind.wrap, IntKind.bits, IntKind.signed]; omega
        have z7 : d ≤ 9 := by omega
        clear hgd hok2 hgd2 hrn hok q3 hdrop o4 hm19 hd q1 q2
        skip
        go_wp2
        exact ⟨⟨k + 1, m * 10 + d, nd + 1, nm + 1, i + 1, dp, dot, true, (by first | rfl | (congr 1; omega)), rfl, (by first | rfl | (congr 1; omega)), rfl, rfl, rfl, (by first | rfl | (congr 1; omega)), (by first | rfl | (congr 1; omega)), rfl, ⟨by have := HI.out; omega, by have := Hlt.out; omega⟩, HN⟩, by have := HI.out; have := Hlt.out; simp [intOf]; omega⟩
      · have HN := Lib.hid (show _ ∧ _ ∧ _ from ⟨hok2, hgd2, hrn⟩)
        have z1 : ((nd : Int) == 0) = false := by simp; omega
        have z2 : decide ((nm : Int) < 19) = false := decide_eq_false (by omega)
        subst q1
        clear hgd hok2 hgd2 hrn hok q3 hdrop o4 hm19
        skip
        go_wp2
        exact ⟨⟨k + 1, m, nd + 1, nm, i + 1, dp, dot, true, rfl, rfl, (by first | rfl | (congr 1; omega)), rfl, rfl, rfl, (by first | rfl | (congr 1; omega)), rfl, rfl, ⟨by have := HI.out; omega, by have := Hlt.out; omega⟩, HN⟩, by have := HI.out; have := Hlt.out; simp [intOf]; omega⟩
    · have hie : i = (n : Int) := by omega
      rw [List.drop_eq_nil_of_le (by omega)] at hrn
      have hrn' : Rd.mk m nd nm dp dot dig = R := hrn
      subst hrn'
      have hdg := HD.out
      have hdg' : dig = true := hdg
      subst hdg' hie
      clear hlen hgd hrn hok HD hlt hi hi0 hi1 hi2 HG hdg o4
      by_cases hm0 : m = 0
      · subst hm0
        have HE : Hid (Rd.exp ⟨0, nd, nm, dp, dot, true⟩ = 0) := by show _ = _; rfl
        cases dot
        · go_wp2
          (try rw [Exit.noGoto_ret]); (try simp only [Exit.inBlock, Exit.then]); refine bodyPost_ret (results_tmp7 rfl _ _ _) rfl ?_
          exact ⟨by rw [HE.out]; rfl, rfl⟩
        · go_wp2
          (try rw [Exit.noGoto_ret]); (try simp only [Exit.inBlock, Exit.then]); refine bodyPost_ret (results_tmp7 rfl _ _ _) rfl ?_
          exact ⟨by rw [HE.out]; rfl, rfl⟩
      · have g0 : ((m : Int) != 0) = true := by simp; omega
        have HE : Hid (Rd.exp ⟨m, nd, nm, dp, dot, true⟩ = (if dot then dp else (nd : Int)) - nm) := by show _ = _; unfold Rd.exp; rw [if_neg hm0]; rfl
        cases dot
        · go_wp2
          (try rw [Exit.noGoto_ret]); (try simp only [Exit.inBlock, Exit.then]); refine bodyPost_ret (results_tmp7 rfl _ _ _) rfl ?_
          exact ⟨by rw [HE.out]; rfl, rfl⟩
        · go_wp2
          (try rw [Exit.noGoto_ret]); (try simp only [Exit.inBlock, Exit.then]); refine bodyPost_ret (results_tmp7 rfl _ _ _) rfl ?_
          exact ⟨by rw [HE.out]; rfl, rfl⟩

set_option maxRecDepth 100000 in
set_option maxHeartbeats 8000000 in
theorem rd_posC (s : ByteArray) (body : List Int) (n : Nat) (c0 : Int) (hsz : s.size = n) (hlen : body.length + 0 = n) (h0 : 0 < s.size) (hc0 : ((s[0]'h0).toNat : Int) = c0) (hlo : 48 ≤ c0) (hb : c0 ≤ 57) (hn : n ≤ 90000) (hA : 2 < n) (ha : c0 = 48) (h1 : 1 < s.size) (hc1 : ((s[1]'h1).toNat : Int) = 46)
    (hget : ∀ i (h : i + 0 < s.size), ((s[i + 0]'h).toNat : Int) = body.getD i 0) (hg : Rd.start.good body) (hdig : (Rd.start.run body).dig = true) (w : World) :
    Calls Tryz.prog 144 #[.string s] w fun e w' => e = .returned (.tuple #[.int .u64 ((Rd.start.run body).m : Nat), .int .i64 (Rd.start.run body).exp, .bool false, .bool false, .bool false, .int .i64 n, .bool true]) ∧ w' = w := by
  have HG := Lib.hid hget
  obtain ⟨R, hR⟩ : ∃ R, Rd.start.run body = R := ⟨_, rfl⟩
  rw [hR] at hdig ⊢
  have HR := Lib.hid (show Rd.ok Rd.start 0 ∧ Rd.start.good (body.drop 0) ∧ Rd.start.run (body.drop 0) = R from ⟨Rd.ok_start, hg, hR⟩)
  have HD := Lib.hid hdig
  have e1 : (c0 == 43) = false := by simp; omega
  have e2 : (c0 == 45) = false := by simp; omega
  have e4 : decide ((2 : Int) < (n : Int)) = true := decide_eq_true (by omega)
  subst ha
  have e5 : decide ((n : Int) ≤ 0) = false := decide_eq_false (by omega)
  have e6 : (0 : Int) < (n : Int) := by omega
  have e7 : (0 : Int) < (n : Int) := by omega
  have e8 : (1 : Int) < (n : Int) := by omega
  clear hg hR hget hdig
  go_enter Tryz.func144, Tryz.ntmps144
  go_wp2
  go_step3
  go_wp2_with (go_at_call 114; (with_reducible refine (lower46 _).mono ?_); rintro e w1 ⟨rfl, rfl⟩)
  go_step3
  go_wp2
  have Hlen := Lib.hid hlen
  clear hlen
  clear e1 e2 e4 e5 e6 e7 e8 hlo hb hc0 hc1
  go_loop [2, 5, 7, 9, 13, 14, 15, 16, 17] (fun vm vt vi vu vd vg vn vk vp => ∃ (k m nd nm : Nat) (i dp : Int) (dot dig : Bool), vm = .int .u64 m ∧ vt = .bool false ∧ vi = .int .i64 i ∧ vu = .bool false ∧ vd = .bool dot ∧ vg = .bool dig ∧ vn = .int .i64 nd ∧ vk = .int .i64 nm ∧ vp = .int .i64 dp ∧ Hid (i = (k : Int) + 0 ∧ k + 0 ≤ n) ∧ Hid (Rd.ok ⟨m, nd, nm, dp, dot, dig⟩ k ∧ Rd.good ⟨m, nd, nm, dp, dot, dig⟩ (body.drop k) ∧ Rd.run ⟨m, nd, nm, dp, dot, dig⟩ (body.drop k) = R)) (fun _ _ vi _ _ _ _ _ _ => n - (intOf vi).toNat)
  case atStart => exact ⟨0, 0, 0, 0, 0, 0, false, false, rfl, rfl, rfl, rfl, rfl, rfl, rfl, rfl, rfl, ⟨by omega, by omega⟩, HR⟩
  case round =>
    obtain ⟨k, m, nd, nm, i, dp, dot, dig, rfl, rfl, rfl, rfl, rfl, rfl, rfl, rfl, rfl, HI, HK⟩ := hrel
    obtain ⟨hi, hk⟩ := HI.out
    have hlen := Hlen.out
    obtain ⟨hok, hgd, hrn⟩ := HK.out
    have o1 : nd ≤ k := hok.nd
    have o2 : nm ≤ 19 := hok.nm
    have o3 : nm ≤ nd := hok.nn
    have o4 : m < 10 ^ nm := hok.m
    have o5 : -(k : Int) ≤ dp := hok.d0
    have o6 : dp ≤ k := hok.d1
    have hm19 : m < 10000000000000000000 := Nat.lt_of_lt_of_le o4 (Nat.pow_le_pow_right (n := 10) (by omega) o2)
    have hi0 : 0 ≤ i := by omega
    have hi1 : i ≤ (n : Int) := by omega
    have hi2 : i.toNat = k + 0 := by omega
    clear HK HR
    by_cases hlt : k + 0 < n
    · obtain ⟨c, hcq⟩ : ∃ c, body[k]? = some c := ⟨_, List.getElem?_eq_getElem (show k < body.length by omega)⟩
      have hdrop : body.drop k = c :: body.drop (k + 1) := by
        obtain ⟨hj, hc⟩ := List.getElem?_eq_some_iff.1 hcq
        rw [← hc]; exact List.drop_eq_getElem_cons (by omega)
      rw [hdrop] at hgd hrn
      have hck0 : ∀ h, ((s[k + 0]'h).toNat : Int) = c := fun h => by
        rw [HG.out k h]
        rw [List.getD_eq_getElem?_getD, hcq]; rfl
      have hck : ∀ h : i.toNat < s.size, ((s[i.toNat]'h).toNat : Int) = c := by
        rw [hi2]
        exact hck0
      have hiL : i < (n : Int) := by omega
      have o7 : nd ≤ 90000 := by omega
      have o8 : -90000 ≤ dp := by omega
      have o9 : dp ≤ 90000 := by omega
      have Hlt := Lib.hid hlt
      clear hlen hck0 hcq hi hi2 hk hlt
      have hok2 := hok.step hgd.1
      have hgd2 := hgd.2
      rw [Rd.run_cons] at hrn
      rcases Rd.fits_cases hgd.1 with ⟨q1, q2, q3⟩ | ⟨q1, q2, q3⟩ | ⟨q1, q2, q4, q3⟩ | ⟨q1, q2, q4, q3⟩ | ⟨q1, q2, q4, q3⟩
      all_goals rw [q3] at hok2 hgd2 hrn
      · have HN := Lib.hid (show _ ∧ _ ∧ _ from ⟨hok2, hgd2, hrn⟩)
        subst q1 q2
        clear hgd hok2 hgd2 hrn hok q3 hdrop o4 hm19
        skip
        go_wp2
        exact ⟨⟨k + 1, m, nd, nm, i + 1, nd, true, dig, rfl, rfl, rfl, rfl, rfl, rfl, rfl, rfl, rfl, ⟨by have := HI.out; omega, by have := Hlt.out; omega⟩, HN⟩, by have := HI.out; have := Hlt.out; simp [intOf]; omega⟩
      · have HN := Lib.hid (show _ ∧ _ ∧ _ from ⟨hok2, hgd2, hrn⟩)
        subst q1 q2
        clear hgd hok2 hgd2 hrn hok q3 hdrop o4 hm19
        skip
        go_wp2
        exact ⟨⟨k + 1, m, 0, nm, i + 1, dp - 1, dot, true, rfl, rfl, rfl, rfl, rfl, rfl, rfl, rfl, rfl, ⟨by have := HI.out; omega, by have := Hlt.out; omega⟩, HN⟩, by have := HI.out; have := Hlt.out; simp [intOf]; omega⟩
      · have HN := Lib.hid (show _ ∧ _ ∧ _ from ⟨hok2, hgd2, hrn⟩)
        have hm18 : m < 1000000000000000000 := Nat.lt_of_lt_of_le o4 (Nat.pow_le_pow_right (n := 10) (by omega) (show nm ≤ 18 by omega))
        have z1 : ((nd : Int) == 0) = false := by simp; omega
        subst q1
        clear hgd hok2 hgd2 hrn hok q3 hdrop o4 hm19
        skip
        go_wp2
        exact ⟨⟨k + 1, m * 10, nd + 1, nm + 1, i + 1, dp, dot, true, (by first | rfl | (congr 1; omega)), rfl, (by first | rfl | (congr 1; omega)), rfl, rfl, rfl, (by first | rfl | (congr 1; omega)), (by first | rfl | (congr 1; omega)), rfl, ⟨by have := HI.out; omega, by have := Hlt.out; omega⟩, HN⟩, by have := HI.out; have := Hlt.out; simp [intOf]; omega⟩
      · have HN := Lib.hid (show _ ∧ _ ∧ _ from ⟨hok2, hgd2, hrn⟩)
        have hm18 : m < 1000000000000000000 := Nat.lt_of_lt_of_le o4 (Nat.pow_le_pow_right (n := 10) (by omega) (show nm ≤ 18 by omega))
        have z1 : (c == 48) = false := by simp; omega
        have z2 : (c == 46) = false := by simp; omega
        have z3 : (c == 95) = false := by simp; omega
        have z4 : decide (48 ≤ c) = true := decide_eq_true (by omega)
        have z5 : decide (c ≤ 57) = true := decide_eq_true (by omega)
        obtain ⟨d, hd⟩ : ∃ d, (c - 48).toNat = d := ⟨_, rfl⟩
        rw [hd] at HN
        have z6 : IntKind.u8.wrap (c - 48) = (d : Int) := by simp [IntKind.wrap, IntKind.bits, IntKind.signed]; omega
        have z7 : d ≤ 9 := by omega
        clear hgd hok2 hgd2 hrn hok q3 hdrop o4 hm19 hd q1 q2
        skip
        go_wp2
        exact ⟨⟨k + 1, m * 10 + d, nd + 1, nm + 1, i + 1, dp, dot, true, (by first | rfl | (congr 1; omega)), rfl, (by first | rfl | (congr 1; omega)), rfl, rfl, rfl, (by first | rfl | (congr 1; omega)), (by first | rfl | (congr 1; omega)), rfl, ⟨by have := HI.out; omega, by have := Hlt.out; omega⟩, HN⟩, by have := HI.out; have := Hlt.out; simp [intOf]; omega⟩
      · have HN := Lib.hid (show _ ∧ _ ∧ _ from ⟨hok2, hgd2, hrn⟩)
        have z1 : ((nd : Int) == 0) = false := by simp; omega
        have z2 : decide ((nm : Int) < 19) = false := decide_eq_false (by omega)
        subst q1
        clear hgd hok2 hgd2 hrn hok q3 hdrop o4 hm19
        skip
        go_wp2
        exact ⟨⟨k + 1, m, nd + 1, nm, i + 1, dp, dot, true, rfl, rfl, (by first | rfl | (congr 1; omega)), rfl, rfl, rfl, (by first | rfl | (congr 1; omega)), rfl, rfl, ⟨by have := HI.out; omega, by have := Hlt.out; omega⟩, HN⟩, by have := HI.out; have := Hlt.out; simp [intOf]; omega⟩
    · have hie : i = (n : Int) := by omega
      rw [List.drop_eq_nil_of_le (by omega)] at hrn
      have hrn' : Rd.mk m nd nm dp dot dig = R := hrn
      subst hrn'
      have hdg := HD.out
      have hdg' : dig = true := hdg
      subst hdg' hie
      clear hlen hgd hrn hok HD hlt hi hi0 hi1 hi2 HG hdg o4
      by_cases hm0 : m = 0
      · subst hm0
        have HE : Hid (Rd.exp ⟨0, nd, nm, dp, dot, true⟩ = 0) := by show _ = _; rfl
        cases dot
        · go_wp2
          (try rw [Exit.noGoto_ret]); (try simp only [Exit.inBlock, Exit.then]); refine bodyPost_ret (results_tmp7 rfl _ _ _) rfl ?_
          exact ⟨by rw [HE.out]; rfl, rfl⟩
        · go_wp2
          (try rw [Exit.noGoto_ret]); (try simp only [Exit.inBlock, Exit.then]); refine bodyPost_ret (results_tmp7 rfl _ _ _) rfl ?_
          exact ⟨by rw [HE.out]; rfl, rfl⟩
      · have g0 : ((m : Int) != 0) = true := by simp; omega
        have HE : Hid (Rd.exp ⟨m, nd, nm, dp, dot, true⟩ = (if dot then dp else (nd : Int)) - nm) := by show _ = _; unfold Rd.exp; rw [if_neg hm0]; rfl
        cases dot
        · go_wp2
          (try rw [Exit.noGoto_ret]); (try simp only [Exit.inBlock, Exit.then]); refine bodyPost_ret (results_tmp7 rfl _ _ _) rfl ?_
          exact ⟨by rw [HE.out]; rfl, rfl⟩
        · go_wp2
          (try rw [Exit.noGoto_ret]); (try simp only [Exit.inBlock, Exit.then]); refine bodyPost_ret (results_tmp7 rfl _ _ _) rfl ?_
          exact ⟨by rw [HE.out]; rfl, rfl⟩

end Go.Proofs.YtcfknhboicomjaaGreatDoor.Ft
