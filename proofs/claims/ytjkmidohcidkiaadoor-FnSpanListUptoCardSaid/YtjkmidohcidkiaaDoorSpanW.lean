/- The walk of the reference's spec.Span: what a text is as a duration. -/
import Derived.Test.YtjkmidohcidkiaaDoorPart
namespace Go.Proofs.YtjkmidohcidkiaaDoor.Pt
open Go.RowKit Go.Proofs.YtjkmidohcidkiaaDoorW.PrintWords Go.Proofs.YtjkmidohcidkiaaDoor.Sp

def SpOut (s : ByteArray) (v k : Int) : Prop :=
  (spanR (bl s) = .wrong ∧ v = 0 ∧ k = 2) ∨ (spanR (bl s) = .opn ∧ v = 0 ∧ k = 0) ∨ (spanR (bl s) = .fit v ∧ k = 1)
def SpanEnd (s : ByteArray) (w : World) (e : Ending) (w' : World) : Prop :=
  ∃ (n : Nat) (v k : Int), w' = w.drewN n ∧ e = .returned (.tuple #[.int .i64 v, .int .i64 k]) ∧ SpOut s v k

theorem bl_toList (s : ByteArray) : s.toList = bl s := ByteArray.toList_eq s
theorem bl_cons (s : ByteArray) (h1 : 0 < s.size) : ∃ l, bl s = s[0] :: l := by
  cases hb : bl s with
  | nil => have := bl_len s; rw [hb] at this; simp at this; omega
  | cons c l =>
    refine ⟨l, ?_⟩
    have := List.getElem_of_eq hb (i := 0) (by rw [bl_len]; exact h1)
    rw [show (bl s)[0]'(by rw [bl_len]; exact h1) = s[0] from rfl] at this
    rw [this]; rfl
theorem ne_empty (s : ByteArray) (h1 : 0 < s.size) : s.toList.isEmpty = false := by
  obtain ⟨l, hl⟩ := bl_cons s h1
  rw [bl_toList, hl]; rfl
theorem is_empty (s : ByteArray) (h1 : s.size = 0) : s.toList.isEmpty = true := by
  rw [bl_toList, List.isEmpty_iff]; exact List.eq_nil_of_length_eq_zero (by rw [bl_len]; exact h1)
theorem bl_nil (s : ByteArray) (h1 : s.size = 0) : bl s = [] := List.eq_nil_of_length_eq_zero (by rw [bl_len]; exact h1)

set_option maxRecDepth 100000 in
set_option maxHeartbeats 3200000 in
theorem span_any (s : ByteArray) (w : World) (hs : s.size ≤ 2147483647) : Calls Tryd.prog 7 #[.string s] w (SpanEnd s w) := by
  go_enter Tryd.func7, Tryd.ntmps7
  go_upto_region 1 with (fail)
  go_cut [4] (fun b w1 => ∃ neg : Bool, b = .bool neg ∧ Hid (neg = true ↔ ∃ l, bl s = 45 :: l) ∧ w1 = w)
  case first =>
    by_cases h0 : s.size = 0
    · have te := is_empty s h0
      have hn : Hid (¬ ∃ l, bl s = 45 :: l) := by
        rintro ⟨l, hl⟩
        rw [bl_nil s h0] at hl
        cases hl
      clear h0
      go_wp2
      go_meet
      case rel => exact ⟨false, rfl, ⟨(fun h => Bool.noConfusion h), (fun h => absurd h hn.out)⟩, rfl⟩
    · have h1 : 0 < s.size := by omega
      have te := ne_empty s h1
      obtain ⟨l, hl⟩ := bl_cons s h1
      have Hl := Lib.hid hl
      clear h0 hl
      by_cases hm : s[0].toNat = 45
      · have t15 : ((s[0].toNat : Int) == 45) = true := by simp; omega
        have hn : Hid (∃ l, bl s = 45 :: l) := ⟨l, by rw [Hl.out, UInt8.toNat_inj.1 (show s[0].toNat = (45 : UInt8).toNat from hm)]⟩
        clear hm
        go_wp2
        go_meet
        case rel => exact ⟨true, rfl, ⟨fun _ => hn.out, fun _ => rfl⟩, rfl⟩
      · have t15 : ((s[0].toNat : Int) == 45) = false := by simp; omega
        have hn : Hid (¬ ∃ l, bl s = 45 :: l) := by
          rintro ⟨t, ht⟩
          rw [Hl.out] at ht
          injection ht with h2 h3
          exact hm (by rw [h2]; rfl)
        clear hm
        go_wp2
        go_meet
        case rel => exact ⟨false, rfl, ⟨(fun h => Bool.noConfusion h), (fun h => absurd h hn.out)⟩, rfl⟩
  case rest =>
    obtain ⟨neg, rfl, Hneg, rfl⟩ := hcut
    go_upto_region 3 with (fail)
    go_cut [29] (fun b w1 => ∃ sg : Bool, b = .bool sg ∧ Hid (sg = true ↔ ∃ c l, bl s = c :: l ∧ (c = 45 ∨ c = 43)) ∧ w1 = wc)
    case first =>
      by_cases h0 : s.size = 0
      · have te := is_empty s h0
        have hn : Hid (¬ ∃ c l, bl s = c :: l ∧ (c = 45 ∨ c = 43)) := by
          rintro ⟨c, l, hl, _⟩
          rw [bl_nil s h0] at hl
          cases hl
        clear h0
        go_wp2
        go_meet
        case rel => exact ⟨false, rfl, ⟨(fun h => Bool.noConfusion h), (fun h => absurd h hn.out)⟩, rfl⟩
      · have h1 : 0 < s.size := by omega
        have te := ne_empty s h1
        obtain ⟨l, hl⟩ := bl_cons s h1
        have Hl := Lib.hid hl
        clear h0 hl
        by_cases hm : s[0].toNat = 45
        · have t15 : ((s[0].toNat : Int) == 45) = true := by simp; omega
          have hn : Hid (∃ c l, bl s = c :: l ∧ (c = 45 ∨ c = 43)) := ⟨_, l, Hl.out, .inl (UInt8.toNat_inj.1 (show s[0].toNat = (45 : UInt8).toNat from hm))⟩
          clear hm
          go_wp2
          go_meet
          case rel => exact ⟨true, rfl, ⟨fun _ => hn.out, fun _ => rfl⟩, rfl⟩
        · have t15 : ((s[0].toNat : Int) == 45) = false := by simp; omega
          by_cases hp : s[0].toNat = 43
          · have t27 : ((s[0].toNat : Int) == 43) = true := by simp; omega
            have hn : Hid (∃ c l, bl s = c :: l ∧ (c = 45 ∨ c = 43)) := ⟨_, l, Hl.out, .inr (UInt8.toNat_inj.1 (show s[0].toNat = (43 : UInt8).toNat from hp))⟩
            clear hm hp
            go_wp2
            go_meet
            case rel => exact ⟨true, rfl, ⟨fun _ => hn.out, fun _ => rfl⟩, rfl⟩
          · have t27 : ((s[0].toNat : Int) == 43) = false := by simp; omega
            have hn : Hid (¬ ∃ c l, bl s = c :: l ∧ (c = 45 ∨ c = 43)) := by
              rintro ⟨c, t, ht, h⟩
              rw [Hl.out] at ht
              injection ht with h2 h3
              rcases h with h | h
              · exact hm (by rw [h2, h]; rfl)
              · exact hp (by rw [h2, h]; rfl)
            clear hm hp
            go_wp2
            go_meet
            case rel => exact ⟨false, rfl, ⟨(fun h => Bool.noConfusion h), (fun h => absurd h hn.out)⟩, rfl⟩
    case rest =>
      obtain ⟨sg, rfl, Hsg, rfl⟩ := hcut
      go_upto_if 29 with (fail)
      go_cut [5] (fun x w1 => ∃ r : ByteArray, x = .string r ∧ r.size ≤ s.size ∧ Hid (spanR (bl s) = bodyR neg (bl r)) ∧ w1 = wc)
      case first =>
        cases sg
        · have hfin : Hid (spanR (bl s) = bodyR neg (bl s)) := by
            show _ = _
            have hno : ¬ ∃ c l, bl s = c :: l ∧ (c = 45 ∨ c = 43) := fun h => by have := Hsg.out.2 h; cases this
            have hnf : neg = false := by
              cases neg
              · rfl
              · obtain ⟨l, hl⟩ := Hneg.out.1 rfl
                exact absurd ⟨_, l, hl, .inl rfl⟩ hno
            rw [hnf]
            cases hb : bl s with
            | nil => rfl
            | cons c l =>
              rw [spanR, if_neg (fun h => hno ⟨c, l, hb, .inl h⟩), if_neg (fun h => hno ⟨c, l, hb, .inr h⟩)]
          go_wp2_with fail
          go_meet
          case rel => exact ⟨s, rfl, Nat.le_refl _, hfin, rfl⟩
        · obtain ⟨c, l, hl, hc⟩ := Hsg.out.1 rfl
          have h1 : 1 ≤ s.size := by
            have := bl_len s
            rw [hl] at this
            simp at this
            omega
          have h1i : (1 : Int) ≤ (s.size : Int) := by omega
          have htail : Hid (bl (s.extract 1 s.size) = l) := by show _ = _; rw [bl_from', hl]; rfl
          have hsz : (s.extract 1 s.size).size ≤ s.size := by rw [← bl_len, bl_from', List.length_drop, bl_len]; omega
          have hfin : Hid (spanR (bl s) = bodyR neg (bl (s.extract 1 s.size))) := by
            show _ = _
            rw [htail.out, hl]
            by_cases hc45 : c = 45
            · rw [spanR, if_pos hc45, Hneg.out.2 ⟨l, by rw [hl, hc45]⟩]
            · have hnf : neg = false := by
                cases neg
                · rfl
                · obtain ⟨t, ht⟩ := Hneg.out.1 rfl
                  rw [hl] at ht
                  injection ht with h2 h3
                  exact absurd h2 hc45
              rw [spanR, if_neg hc45, if_pos (hc.resolve_left hc45), hnf]
          clear hl hc htail
          go_wp2_with fail
          go_meet
          case rel => exact ⟨_, rfl, hsz, hfin, rfl⟩
      case rest =>
        obtain ⟨r0, rfl, hr0, HR, rfl⟩ := hcut
        clear Hneg Hsg
        by_cases hz : bl r0 = [48]
        · have tz : (r0.toList == [48]) = true := by rw [bl_toList, hz]; rfl
          have hfin : SpOut s 0 1 := .inr (.inr ⟨by rw [HR.out, hz]; rfl, rfl⟩)
          clear hz
          go_wp2
          go_ret2
          exact ⟨0, _, _, rfl, rfl, hfin⟩
        by_cases he : bl r0 = []
        · have tz : (r0.toList == [48]) = false := by rw [bl_toList, he]; rfl
          have te : r0.toList.isEmpty = true := by rw [bl_toList, he]; rfl
          have hfin : SpOut s 0 2 := .inl ⟨by rw [HR.out, he]; rfl, rfl, rfl⟩
          clear hz he
          go_wp2
          go_ret2
          exact ⟨0, _, _, rfl, rfl, hfin⟩
        have tz : (r0.toList == [48]) = false := by rw [bl_toList]; exact beq_eq_false_iff_ne.2 hz
        have te : r0.toList.isEmpty = false := by rw [bl_toList]; exact List.isEmpty_eq_false_iff.2 he
        have htr : Hid (spanR (bl s) = loopR neg ((bl r0).length + 1) (bl r0) 0) := by
          show _ = _
          rw [HR.out, bodyR, if_neg hz, if_neg he]
        clear hz he HR
        obtain ⟨R, hR⟩ : ∃ R, spanR (bl s) = R := ⟨_, rfl⟩
        have HO : Hid (∀ (W : World) (v k : Int), (∃ n, W = wc.drewN n) → ((R = .wrong ∧ v = 0 ∧ k = 2) ∨ (R = .opn ∧ v = 0 ∧ k = 0) ∨ (R = .fit v ∧ k = 1)) → SpanEnd s wc (.returned (.tuple #[.int .i64 v, .int .i64 k])) W) := by
          rintro W v k ⟨n, hn⟩ h
          exact ⟨n, v, k, hn, rfl, by rw [SpOut, hR]; exact h⟩
        rw [hR] at htr
        clear hR
        go_wp2_with fail
        go_loopg [5, 6] r0.size (fun gk x d wr => ∃ (r : ByteArray) (dn n m : Nat), gk = r.size ∧ x = .string r ∧ d = .int .u64 dn ∧ dn ≤ 9223372036854775808 ∧ r.size ≤ s.size ∧ Hid (r.size < m) ∧ Hid (R = loopR neg m (bl r) dn) ∧ wr = wc.drewN n)
        case atStart => exact ⟨r0, 0, 0, (bl r0).length + 1, rfl, rfl, rfl, by omega, hr0, by show _ < _; rw [bl_len]; omega, htr, rfl⟩
        case round =>
          obtain ⟨r, d, n0, m, rfl, rfl, rfl, hd, hrs, Hm, ht, rfl⟩ := hrel
          clear htr tz te
          obtain ⟨m, rfl⟩ : ∃ k, m = k + 1 := ⟨m - 1, by have := Hm.out; omega⟩
          by_cases h0 : r.size = 0
          · have te := is_empty r h0
            have hdone : R = endR neg d := by rw [ht.out, bl_nil r h0, loopR, if_pos rfl]
            clear ht h0 Hm
            cases neg
            · by_cases hbig : d = 9223372036854775808
              · have t66 : ((d : Int) == 9223372036854775808) = true := by simp; omega
                have hno : R = .wrong := by rw [hdone, hbig]; rfl
                clear hdone hbig
                go_wp2
                go_ret2
                exact HO.out _ _ _ ⟨_, rfl⟩ (.inl ⟨hno, rfl, rfl⟩)
              · have t66 : ((d : Int) == 9223372036854775808) = false := by simp; omega
                have hval : R = .fit d := by rw [hdone, endR, if_neg (by simp)]; exact if_neg hbig
                have hd2 : (d : Int) ≤ 9223372036854775807 := by omega
                clear hdone hbig hd
                go_wp2
                go_ret2
                exact HO.out _ _ _ ⟨_, rfl⟩ (.inr (.inr ⟨hval, rfl⟩))
            · have hval : R = .fit (-(d : Int)) := by rw [hdone, endR, if_pos rfl]
              have hw : Hid (wrap64 (-(wrap64 (d : Int))) = -(d : Int)) := by show _ = _; unfold wrap64; omega
              clear hdone
              go_wp2
              go_ret2
              have h := HO.out (wc.drewN n0) (-(d : Int)) 1 ⟨_, rfl⟩ (.inr (.inr ⟨hval, rfl⟩))
              rw [← hw.out] at h
              exact h
          · have h1 : 0 < r.size := by omega
            have te := ne_empty r h1
            have hne : bl r ≠ [] := by obtain ⟨l, hl⟩ := bl_cons r h1; rw [hl]; simp
            have Hne := Lib.hid hne
            clear hne h0
            go_wp2_with fail
            refine (part_any r _ (by omega)).mono ?_
            rintro e w1 ⟨n1, v, rfl, rfl, hv⟩
            rw [World.drewN_drewN]
            rcases hv with ⟨hp, rfl⟩ | ⟨hp, rfl⟩ | ⟨n, r1, hp, rfl⟩
            · have hno : R = .wrong := by rw [ht.out, loopR, if_neg Hne.out, hp]
              clear ht hp
              go_wp2
              go_ret2
              exact HO.out _ _ _ ⟨_, rfl⟩ (.inl ⟨hno, rfl, rfl⟩)
            · have hno : R = .opn := by rw [ht.out, loopR, if_neg Hne.out, hp]
              clear ht hp
              go_wp2
              go_ret2
              exact HO.out _ _ _ ⟨_, rfl⟩ (.inr (.inl ⟨hno, rfl, rfl⟩))
            · have hl := partR_len _ _ _ hp
              rw [bl_len, bl_len] at hl
              have hl1 := hl.1
              have hl2 : n ≤ 9223372036854775808 := hl.2
              have Ht2 : Hid (R = if top < d + n then (if n = top ∨ d = top then .opn else .wrong) else loopR neg m (bl r1) (d + n)) := by
                show _ = _
                rw [ht.out, loopR, if_neg Hne.out, hp]
              clear ht hp hl
              by_cases hov : 9223372036854775808 < d + n
              · have t50 : decide ((9223372036854775808 : Int) - (d : Int) < (n : Int)) = true := by simp; omega
                by_cases hnt : n = 9223372036854775808
                · have t52 : ((n : Int) == 9223372036854775808) = true := by simp; omega
                  have hno : R = .opn := by rw [Ht2.out, if_pos (show top < d + n from hov), if_pos (.inl hnt)]
                  clear hnt hov Ht2
                  go_wp2
                  go_ret2
                  exact HO.out _ _ _ ⟨_, rfl⟩ (.inr (.inl ⟨hno, rfl, rfl⟩))
                · have t52 : ((n : Int) == 9223372036854775808) = false := by simp; omega
                  by_cases hdt : d = 9223372036854775808
                  · have t55 : ((d : Int) == 9223372036854775808) = true := by simp; omega
                    have hno : R = .opn := by rw [Ht2.out, if_pos (show top < d + n from hov), if_pos (.inr hdt)]
                    clear hnt hov Ht2 hdt
                    go_wp2
                    go_ret2
                    exact HO.out _ _ _ ⟨_, rfl⟩ (.inr (.inl ⟨hno, rfl, rfl⟩))
                  · have t55 : ((d : Int) == 9223372036854775808) = false := by simp; omega
                    have hno : R = .wrong := by rw [Ht2.out, if_pos (show top < d + n from hov), if_neg (by rintro (h | h); exact hnt h; exact hdt h)]
                    clear hnt hov Ht2 hdt
                    go_wp2
                    go_ret2
                    exact HO.out _ _ _ ⟨_, rfl⟩ (.inl ⟨hno, rfl, rfl⟩)
              · have t50 : decide ((9223372036854775808 : Int) - (d : Int) < (n : Int)) = false := by simp; omega
                have hno : Hid (R = loopR neg m (bl r1) (d + n)) := by show _ = _; rw [Ht2.out, if_neg (show ¬ top < d + n from hov)]
                have hle : d + n ≤ 9223372036854775808 := by omega
                have hw : IntKind.u64.wrap ((d : Int) + (n : Int)) = ((d + n : Nat) : Int) := by rw [IntKind.wrap_u64]; omega
                have Hm2 : Hid (r1.size < m) := by show _ < _; have := Hm.out; omega
                clear hov Ht2
                go_wp2
                go_roundg r1.size
                case measure => exact hl1
                case rel => exact ⟨r1, d + n, _, m, rfl, rfl, by simp, hle, by omega, Hm2, hno, rfl⟩
end Go.Proofs.YtjkmidohcidkiaaDoor.Pt
