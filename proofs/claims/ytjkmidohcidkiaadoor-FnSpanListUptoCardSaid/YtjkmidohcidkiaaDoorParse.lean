/- The walk of time.ParseDuration. -/
import Derived.Test.YtjkmidohcidkiaaDoorFrac
import Derived.Test.YtjkmidohcidkiaaDoorQuote
import Derived.Test.YtjkmidohcidkiaaDoorSteps
import Derived.WalkLawsBesides
namespace Go.Proofs.YtjkmidohcidkiaaDoor.Sp
open Go.RowKit Go.Proofs.YtjkmidohcidkiaaDoorW.PrintWords

/-- The package's variables hold what they hold; block bm is the map of units. -/
structure UM (w : World) (bm : Nat) (a : Addr) : Prop where
  c0 : w.cell? ⟨0, 0, none⟩ = some (.map (some bm))
  c1 : w.cell? ⟨1, 0, none⟩ = some (.iface 109 (.pointer (some a)))
  lt : bm < w.heap.size
  look : ∀ W : World, W.heap[bm]? = w.heap[bm]? → ∀ u : ByteArray, u.size ≤ 2147483647 → (Instr.lookup 99 (.map (some bm)) (.string u) true).run Tryd.prog W = .ok (.tuple #[.int .u64 (unitOf (bl u)), .bool (!(unitOf (bl u) == 0))]) W

def PDEnd (s : ByteArray) (w : World) (e : Ending) (w' : World) : Prop :=
  Below w.heap.size w w' ∧ ∃ (v : Int) (E : Value), e = .returned (.tuple #[.int .i64 v, E]) ∧ -9223372036854775808 ≤ v ∧ v ≤ 9223372036854775807 ∧
    ((E = .nilIface ∧ (spanR (bl s) = .fit v ∨ spanR (bl s) = .opn)) ∨ (∃ p, E = .iface 90 (.pointer (some p)) ∧ NoFit (spanR (bl s))))

theorem bl_extract (s : ByteArray) (i j : Nat) : bl (s.extract i j) = ((bl s).take j).drop i := by
  unfold bl
  simp [List.extract_eq_take_drop, List.drop_take]
theorem bl_from (s : ByteArray) (i : Nat) : bl (s.extract i s.size) = (bl s).drop i := by
  rw [bl_extract, List.take_of_length_le (by rw [bl_len]; omega)]
theorem bl_upto (s : ByteArray) (j : Nat) : bl (s.extract 0 j) = (bl s).take j := by
  rw [bl_extract, List.drop_zero]
theorem size_from (s : ByteArray) (i : Nat) : (s.extract i s.size).size = s.size - i := by rw [← bl_len, bl_from, List.length_drop, bl_len]
theorem bl_toList (s : ByteArray) : s.toList = bl s := ByteArray.toList_eq s

structure FracOut (l1 l3 : List UInt8) (f b : Nat) (post : Bool) : Prop where
  rest : l3 = restF l1
  post : post = true ↔ cntF l1 ≠ 0
  near : cntF l1 ≤ 12 → f = valF l1 ∧ (f ≠ 0 → b = Fl.p10 (cntF l1))
theorem FracOut.none_ (l1 : List UInt8) (b : Nat) (h : ¬ ∃ t, l1 = 46 :: t) : FracOut l1 l1 0 b false := by
  cases l1 with
  | nil => exact ⟨rfl, by simp [cntF], fun _ => ⟨rfl, fun h => absurd rfl h⟩⟩
  | cons c l =>
    have hc : ¬ c = 46 := fun e => h ⟨l, by rw [e]⟩
    exact ⟨by rw [restF, if_neg hc], by simp [cntF, hc], fun _ => ⟨by rw [valF, if_neg hc], fun h => absurd rfl h⟩⟩
theorem FracOut.some_ (l1 t l3 : List UInt8) (f b : Nat) (post : Bool) (h : l1 = 46 :: t) (h3 : l3 = t.drop (digN t)) (hp : post = true ↔ digN t ≠ 0) (hn : digN t ≤ 12 → f = val (digs t) ∧ b = Fl.p10 (digN t)) : FracOut l1 l3 f b post := by
  subst h
  exact ⟨by rw [restF, if_pos rfl, h3], by rw [cntF, if_pos rfl]; exact hp, by rw [cntF, if_pos rfl, valF, if_pos rfl]; exact fun h => ⟨(hn h).1, fun _ => (hn h).2⟩⟩
theorem valF_lt (l : List UInt8) : valF l < 10 ^ cntF l := by
  cases l with
  | nil => simp [valF, cntF]
  | cons c t =>
    by_cases hc : c = 46
    · rw [valF, if_pos hc, cntF, if_pos hc]
      exact val_lt _ (fun d hd => digs_mem _ _ hd)
    · rw [valF, if_neg hc, cntF, if_neg hc]; simp
theorem bl_cons (s : ByteArray) (h1 : 0 < s.size) : ∃ l, bl s = s[0] :: l := by
  cases hb : bl s with
  | nil => have := bl_len s; rw [hb] at this; simp at this; omega
  | cons c l =>
    refine ⟨l, ?_⟩
    have := List.getElem_of_eq hb (i := 0) (by rw [bl_len]; exact h1)
    rw [show (bl s)[0]'(by rw [bl_len]; exact h1) = s[0] from rfl] at this
    rw [this]; rfl
theorem ne_empty (s : ByteArray) (h1 : 0 < s.size) : s.toList.isEmpty = false := by
  obtain ⟨l, hl⟩ := bl_cons s h1
  rw [bl_toList, hl]; rfl
theorem is_empty (s : ByteArray) (h1 : s.size = 0) : s.toList.isEmpty = true := by
  rw [bl_toList, List.isEmpty_iff]; exact List.eq_nil_of_length_eq_zero (by rw [bl_len]; exact h1)
theorem bl_nil (s : ByteArray) (h1 : s.size = 0) : bl s = [] := List.eq_nil_of_length_eq_zero (by rw [bl_len]; exact h1)

set_option maxRecDepth 100000 in
set_option maxHeartbeats 1600000 in
theorem Parse_any (s : ByteArray) (w : World) (bm : Nat) (a : Addr) (hs : s.size ≤ 2147483647) (hu : UM w bm a) : Calls Tryd.prog 34 #[.string s] w (PDEnd s w) := by
  go_enter Tryd.func34, Tryd.ntmps34
  go_upto_if 23 with (fail)
  go_cut [0, 6] (fun x b w1 => ∃ (r : ByteArray) (neg : Bool), x = .string r ∧ b = .bool neg ∧ r.size ≤ s.size ∧ Hid (spanR (bl s) = bodyR neg (bl r)) ∧ w1 = w)
  case first =>
    as_aux_lemma =>
      by_cases h0 : s.size = 0
      · have e : s.toList.isEmpty = true := by rw [bl_toList, List.isEmpty_iff]; exact List.eq_nil_of_length_eq_zero (by rw [bl_len]; exact h0)
        have hfin : Hid (spanR (bl s) = bodyR false (bl s)) := by
          show _ = _
          rw [List.eq_nil_of_length_eq_zero (show (bl s).length = 0 by rw [bl_len]; exact h0)]; rfl
        clear h0
        rw [show (!s.toList.isEmpty) = false by rw [e]; rfl]
        go_wp2
        go_meet
        case rel => exact ⟨s, false, rfl, rfl, Nat.le_refl _, hfin, rfl⟩
      · have h1 : 0 < s.size := by omega
        have e : s.toList.isEmpty = false := by rw [bl_toList]; cases hb : bl s with
          | nil => have := bl_len s; rw [hb] at this; simp at this; omega
          | cons => rfl
        obtain ⟨l, hl⟩ : ∃ l, bl s = s[0] :: l := by
          cases hb : bl s with
          | nil => have := bl_len s; rw [hb] at this; simp at this; omega
          | cons c l =>
            refine ⟨l, ?_⟩
            have := List.getElem_of_eq hb (i := 0) (by rw [bl_len]; exact h1)
            rw [show (bl s)[0]'(by rw [bl_len]; exact h1) = s[0] from rfl] at this
            rw [this]; rfl
        have Hl := Lib.hid hl
        clear hl h0
        have htail : Hid (bl (s.extract 1 s.size) = l) := by show _ = _; rw [bl_from, Hl.out]; rfl
        have hsz : (s.extract 1 s.size).size ≤ s.size := by rw [size_from]; omega
        rw [show (!s.toList.isEmpty) = true by rw [e]; rfl]
        by_cases hm : s[0].toNat = 45
        · have t27 : ((s[0].toNat : Int) == 45) = true := by simp; omega
          have hfin : Hid (spanR (bl s) = bodyR true (bl (s.extract 1 s.size))) := by
            show _ = _
            rw [htail.out, Hl.out, spanR, if_pos (UInt8.toNat_inj.1 hm)]
          clear hm
          go_wp2
          go_meet
          case rel => exact ⟨_, true, rfl, rfl, hsz, hfin, rfl⟩
        · have t27 : ((s[0].toNat : Int) == 45) = false := by simp; omega
          have hm' : ¬ s[0] = 45 := fun h => hm (by rw [h]; rfl)
          by_cases hp : s[0].toNat = 43
          · have t30 : ((s[0].toNat : Int) == 43) = true := by simp; omega
            have hfin : Hid (spanR (bl s) = bodyR false (bl (s.extract 1 s.size))) := by
              show _ = _
              rw [htail.out, Hl.out, spanR, if_neg hm', if_pos (UInt8.toNat_inj.1 hp)]
            clear hm hp hm'
            go_wp2
            go_meet
            case rel => exact ⟨_, false, rfl, rfl, hsz, hfin, rfl⟩
          · have t30 : ((s[0].toNat : Int) == 43) = false := by simp; omega
            have hp' : ¬ s[0] = 43 := fun h => hp (by rw [h]; rfl)
            have hfin : Hid (spanR (bl s) = bodyR false (bl s)) := by
              show _ = _
              rw [Hl.out, spanR, if_neg hm', if_neg hp']
            clear hm hp hm' hp'
            go_wp2
            go_meet
            case rel => exact ⟨s, false, rfl, rfl, Nat.le_refl _, hfin, rfl⟩
  case rest =>
    obtain ⟨r0, neg, rfl, rfl, hr0, HR, rfl⟩ := hcut
    by_cases hz : bl r0 = [48]
    · have tz : (r0.toList == [48]) = true := by rw [bl_toList, hz]; rfl
      have hfin : Hid (spanR (bl s) = .fit 0) := by show _ = _; rw [HR.out, hz]; rfl
      clear hz
      go_wp2
      go_ret2
      exact ⟨Below.refl _ _, 0, .nilIface, rfl, by omega, by omega, .inl ⟨rfl, .inl hfin.out⟩⟩
    by_cases he : bl r0 = []
    · have tz : (r0.toList == [48]) = false := by rw [bl_toList, he]; rfl
      have te : r0.toList.isEmpty = true := by rw [bl_toList, he]; rfl
      have hfin : Hid (spanR (bl s) = .wrong) := by show _ = _; rw [HR.out, he]; rfl
      clear hz he
      go_wp2
      go_ret2
      exact ⟨(Below.refl _ _).alloc (Nat.le_refl _) _, 0, _, rfl, by omega, by omega, .inr ⟨_, rfl, fun v hv => by rw [hfin.out] at hv; cases hv⟩⟩
    have tz : (r0.toList == [48]) = false := by rw [bl_toList]; exact beq_eq_false_iff_ne.2 hz
    have te : r0.toList.isEmpty = false := by rw [bl_toList]; exact List.isEmpty_eq_false_iff.2 he
    have htr : Tr neg (spanR (bl s)) (bl r0) 0 := by rw [HR.out]; exact Tr.start neg _ hz he
    clear hz he HR
    obtain ⟨R, hR⟩ : ∃ R, spanR (bl s) = R := ⟨_, rfl⟩
    have HR := Lib.hid hR
    rw [hR] at htr
    clear hR
    have erra : ∀ (W : World) (p : Addr), Below wc.heap.size wc W → NoFit R → PDEnd s wc (.returned (.tuple #[.int .i64 0, .iface 90 (.pointer (some p))])) W :=
      fun W p hb hn => ⟨hb, 0, _, rfl, by omega, by omega, .inr ⟨p, rfl, by rw [HR.out]; exact hn⟩⟩
    have Err := Lib.hid erra
    clear erra
    go_wp2_with fail
    go_loopg [0, 5] r0.size (fun gk x d wr => ∃ (r : ByteArray) (dn n : Nat), gk = r.size ∧ x = .string r ∧ d = .int .u64 dn ∧ dn ≤ 9223372036854775808 ∧ r.size ≤ s.size ∧ Tr neg R (bl r) dn ∧ wr = wc.drewN n)
    case atStart => exact ⟨r0, 0, 0, rfl, rfl, rfl, by omega, hr0, htr, rfl⟩
    case round =>
      obtain ⟨r, d, n0, rfl, rfl, rfl, hd, hrs, ht, rfl⟩ := hrel
      clear htr tz te
      have Hu0 := Lib.hid hu
      by_cases h0 : r.size = 0
      · as_aux_lemma =>
          have te := is_empty r h0
          rw [bl_nil r h0] at ht
          have hdone := ht.done
          clear ht h0
          have ok : ∀ (v : Int) (W : World), Below wc.heap.size wc W → -9223372036854775808 ≤ v → v ≤ 9223372036854775807 → (R = .opn ∨ R = .fit v) → PDEnd s wc (.returned (.tuple #[.int .i64 v, .nilIface])) W :=
            fun v W hb h1 h2 h3 => ⟨hb, v, _, rfl, h1, h2, .inl ⟨rfl, by rw [HR.out]; exact h3.symm⟩⟩
          have Ok := Lib.hid ok
          clear ok
          have hb : Below wc.heap.size wc (wc.drewN n0) := Drawn0.below ⟨⟨n0, rfl⟩⟩
          cases neg
          · by_cases hbig : d = 9223372036854775808
            · have t203 : decide ((9223372036854775807 : Int) < (d : Int)) = true := by simp; omega
              have hno : NoFit R := by
                rcases hdone with h | h
                · rw [h]; intro v hv; cases hv
                · rw [h, hbig]; intro v hv; cases hv
              clear hdone hbig
              go_wp2
              go_ret2
              exact Err.out _ _ (hb.alloc (by simp) _) hno
            · have t203 : decide ((9223372036854775807 : Int) < (d : Int)) = false := by simp; omega
              have hval : R = .opn ∨ R = .fit d := by
                rcases hdone with h | h
                · exact .inl h
                · right; rw [h, endR, if_neg (by simp)]; exact if_neg hbig
              have hd2 : (d : Int) ≤ 9223372036854775807 := by omega
              clear hdone hbig hd
              go_wp2
              go_ret2
              exact Ok.out _ _ hb (by omega) hd2 hval
          · have hval : R = .opn ∨ R = .fit (-(d : Int)) := by
              rcases hdone with h | h
              · exact .inl h
              · right; rw [h, endR, if_pos rfl]
            have hw : Hid (wrap64 (-(wrap64 (d : Int))) = -(d : Int)) := by show _ = _; unfold wrap64; omega
            clear hdone
            go_wp2
            go_ret2
            have h := Ok.out (-(d : Int)) _ hb (by omega) (by omega) hval
            rw [← hw.out] at h
            exact h
      · have h1 : 0 < r.size := by omega
        obtain ⟨l, hl⟩ := bl_cons r h1
        have te := ne_empty r h1
        have hne : bl r ≠ [] := by rw [hl]; simp
        have Hne := Lib.hid hne
        have Hl := Lib.hid hl
        clear hne h0 hl
        by_cases hfirst : r[0].toNat = 46 ∨ (48 ≤ r[0].toNat ∧ r[0].toNat ≤ 57)
        · have hcut1 : ((r[0].toNat : Int) == 46) = true ∨ (((r[0].toNat : Int) == 46) = false ∧ decide ((48 : Int) ≤ (r[0].toNat : Int)) = true ∧ decide ((r[0].toNat : Int) ≤ 57) = true) := by
            rcases hfirst with h | h
            · left; simp; omega
            · by_cases h2 : r[0].toNat = 46
              · left; simp; omega
              · right; simp; omega
          clear hfirst
          go_upto_region 17 with (fail)
          go_cut [59] (fun b w1 => b = .bool false ∧ w1 = wc.drewN n0)
          case first =>
            rcases hcut1 with t48 | ⟨t48, t52, t56⟩
            all_goals
              go_wp2
              go_meet
              case rel => exact ⟨rfl, rfl⟩
          case rest =>
            obtain ⟨rfl, rfl⟩ := hcut
            clear hcut1
            go_wp2_with fail
            refine (leadingInt_any r a (wc.drewN n0) (by omega) Hu0.out.c1).mono ?_
            rintro e w1 ⟨⟨n1, rfl⟩, hcase⟩
            rcases hcase with ⟨hv, rfl⟩ | ⟨hv, rfl⟩
            · obtain ⟨r1, hr1⟩ : ∃ r1, r.extract (digN (bl r)) r.size = r1 := ⟨_, rfl⟩
              have hb1 : Hid (bl r1 = (bl r).drop (digN (bl r))) := by show _ = _; rw [← hr1, bl_from]
              have hs1 : r1.size = r.size - digN (bl r) := by rw [← hr1, size_from]
              have hdl := digN_le (bl r)
              rw [bl_len] at hdl
              obtain ⟨v, hvv⟩ : ∃ v, val (digs (bl r)) = v := ⟨_, rfl⟩
              rw [hr1, hvv]
              have hle1 : r1.size ≤ r.size := by omega
              obtain ⟨pre, hpre⟩ : ∃ b, ((r.size : Int) != (r1.size : Int)) = b := ⟨_, rfl⟩
              have Hpre : Hid (pre = true ↔ digN (bl r) ≠ 0) := by
                show _ ↔ _
                rw [← hpre]; simp; omega
              have hv2 : v ≤ 9223372036854775808 := by rw [← hvv]; exact hv
              have Hvv := Lib.hid hvv
              clear hr1 hs1 hdl hvv hv
              go_upto_region 25 with (fail)
              clear hpre
              go_cut [88] (fun b w1 => ∃ dot : Bool, b = .bool dot ∧ Hid (dot = true ↔ ∃ t, bl r1 = 46 :: t) ∧ w1 = wc.drewN (n0 + n1))
              case first =>
                as_aux_lemma =>
                  by_cases z1 : r1.size = 0
                  · have te1 := is_empty r1 z1
                    have Hd0 : Hid (false = true ↔ ∃ t, bl r1 = 46 :: t) := by show _ ↔ _; rw [bl_nil r1 z1]; simp
                    clear z1
                    go_wp2
                    go_meet
                    case rel => exact ⟨false, rfl, Hd0, rfl⟩
                  · have te1 := ne_empty r1 (by omega)
                    have hp1 : 0 < r1.size := by omega
                    obtain ⟨t1, ht1⟩ := bl_cons r1 hp1
                    by_cases hdt : r1[0].toNat = 46
                    · have td : ((r1[0].toNat : Int) == 46) = true := by simp; omega
                      have Hd0 : Hid (true = true ↔ ∃ t, bl r1 = 46 :: t) := by
                        show _ ↔ _
                        rw [ht1, UInt8.toNat_inj.1 (show r1[0].toNat = (46 : UInt8).toNat from hdt)]; simp
                      clear z1 hdt ht1
                      go_wp2
                      go_meet
                      case rel => exact ⟨true, rfl, by have := Hd0.out; show _ ↔ _; simpa using this, rfl⟩
                    · have td : ((r1[0].toNat : Int) == 46) = false := by simp; omega
                      have Hd0 : Hid (false = true ↔ ∃ t, bl r1 = 46 :: t) := by
                        show _ ↔ _
                        rw [ht1]
                        simp
                        intro h
                        exact hdt (by rw [h]; rfl)
                      clear z1 hdt ht1
                      go_wp2
                      go_meet
                      case rel => exact ⟨false, rfl, Hd0, rfl⟩
              case rest =>
                obtain ⟨dot, rfl, Hdot, rfl⟩ := hcut
                go_upto_if 88 with (fail)
                go_cut [0, 9, 10, 14] (fun x fv bv p w1 => ∃ (r3 : ByteArray) (fn bn : Nat) (post : Bool) (n2 : Nat), x = .string r3 ∧ fv = .int .u64 fn ∧ bv = .float .f64 bn ∧ p = .bool post ∧ fn ≤ 9223372036854775808 ∧ r3.size ≤ r1.size ∧ FracOut (bl r1) (bl r3) fn bn post ∧ w1 = wc.drewN n2)
                case first =>
                  as_aux_lemma =>
                    cases dot
                    · go_wp2_with fail
                      go_meet
                      case rel => exact ⟨r1, 0, _, false, _, rfl, rfl, rfl, rfl, by omega, Nat.le_refl _, FracOut.none_ _ _ (fun h => by have := Hdot.out.2 h; cases this), rfl⟩
                    · obtain ⟨t1, ht1⟩ := Hdot.out.1 rfl
                      have hp1 : 0 < r1.size := by rw [← bl_len, ht1]; simp
                      have hp1i : (1 : Int) ≤ (r1.size : Int) := by omega
                      have hb2 : Hid (bl (r1.extract 1 r1.size) = t1) := by show _ = _; rw [bl_from, ht1]; rfl
                      have hs2 := size_from r1 1
                      have Ht1 := Lib.hid ht1
                      clear ht1
                      obtain ⟨r2, hr2⟩ : ∃ r2, r1.extract 1 r1.size = r2 := ⟨_, rfl⟩
                      go_wp2_with fail
                      rw [hr2] at hb2 hs2
                      refine (leadingFraction_any r2 _ (by omega)).mono ?_
                      rintro e w1 ⟨n2, x, b, hx, rfl, rfl, hnear⟩
                      have Hnear := Lib.hid hnear
                      obtain ⟨r3, hr3⟩ : ∃ r3, r2.extract (digN (bl r2)) r2.size = r3 := ⟨_, rfl⟩
                      have hb3 : Hid (bl r3 = (bl r2).drop (digN (bl r2))) := by show _ = _; rw [← hr3, bl_from]
                      have hs3 : r3.size = r2.size - digN (bl r2) := by rw [← hr3, size_from]
                      have hdl := digN_le (bl r2)
                      rw [bl_len] at hdl
                      rw [hr3]
                      obtain ⟨post, hpost⟩ : ∃ b, ((r2.size : Int) != (r3.size : Int)) = b := ⟨_, rfl⟩
                      have Hpost : Hid (post = true ↔ digN (bl r2) ≠ 0) := by
                        show _ ↔ _
                        rw [← hpost]; simp; omega
                      have hle3 : r3.size ≤ r1.size := by omega
                      clear hr2 hr3 hs2 hs3 hdl hnear
                      go_wp2_with fail
                      go_meet
                      case rel => exact ⟨r3, x, b, post, _, rfl, rfl, rfl, rfl, hx, hle3, FracOut.some_ _ _ _ _ _ _ Ht1.out (by rw [hb3.out, hb2.out]) (by rw [Hpost.out, hb2.out]) (by have := Hnear.out; rwa [hb2.out] at this), rfl⟩
                case rest =>
                  obtain ⟨r3, f, b, post, n2, rfl, rfl, rfl, rfl, hf2, hr3, HF, rfl⟩ := hcut
                  by_cases hpp : pre = false ∧ post = false
                  · as_aux_lemma =>
                      obtain ⟨rfl, rfl⟩ := hpp
                      have hbad : NoFit R := ht.bad Hne.out (no_digits _ (by have := Hpre.out; simpa using this) (by rw [← hb1.out]; have := HF.post; simpa using this))
                      go_wp2
                      go_ret2
                      exact Err.out _ _ (((Below.refl _ _).trans (Drawn0.below ⟨⟨n2, rfl⟩⟩)).alloc (by simp) _) hbad
                  · go_upto_region 30 with (fail)
                    go_cut [108] (fun b w1 => b = .bool false ∧ w1 = wc.drewN n2)
                    case first =>
                      as_aux_lemma =>
                        cases pre
                        · cases post
                          · exact absurd ⟨rfl, rfl⟩ hpp
                          · clear hpp
                            go_wp2
                            go_meet
                            case rel => exact ⟨rfl, rfl⟩
                        · clear hpp
                          go_wp2
                          go_meet
                          case rel => exact ⟨rfl, rfl⟩
                    case rest =>
                      obtain ⟨rfl, rfl⟩ := hcut
                      have Hnz : Hid (¬(digN (bl r) = 0 ∧ cntF ((bl r).drop (digN (bl r))) = 0)) := by
                        intro h
                        apply hpp
                        constructor
                        · cases pre
                          · rfl
                          · exact absurd h.1 (Hpre.out.1 rfl)
                        · cases post
                          · rfl
                          · exact absurd h.2 (by rw [← hb1.out]; exact HF.post.1 rfl)
                      clear hpp
                      go_upto_block 2 with (fail)
                      go_cut [16] (fun iv w1 => ∃ k3 : Nat, iv = .int .i64 k3 ∧ Hid (k3 = uN (bl r3)) ∧ k3 ≤ r3.size ∧ w1 = wc.drewN n2)
                      case first =>
                        as_aux_lemma =>
                          have hul := uN_le (bl r3)
                          rw [bl_len] at hul
                          go_wp2_with fail
                          go_loop [16] (fun iv => ∃ k : Nat, k ≤ uN (bl r3) ∧ iv = .int .i64 k) (fun iv => r3.size - (intOf iv).toNat)
                          case atStart => exact ⟨0, Nat.zero_le _, rfl⟩
                          case round =>
                            obtain ⟨k, hk, rfl⟩ := hrel
                            by_cases hks : k < r3.size
                            · have hget : (bl r3)[k]? = some r3[k] := List.getElem?_eq_getElem (by rw [bl_len]; exact hks)
                              by_cases hlt : k < uN (bl r3)
                              · have hU := uN_at (bl r3) k hlt _ hget
                                have h46 : ¬ r3[k].toNat = 46 := fun h => by
                                  rw [UInt8.toNat_inj.1 (show r3[k].toNat = (46 : UInt8).toNat from h)] at hU
                                  exact absurd hU (by decide)
                                have hdg : ¬ (48 ≤ r3[k].toNat ∧ r3[k].toNat ≤ 57) := fun h => by
                                  rw [isU, (isDig_iff _).2 h] at hU
                                  simp at hU
                                have t123 : ((r3[k].toNat : Int) == 46) = false := by simp; omega
                                clear hget hU h46
                                rcases Nat.lt_or_ge r3[k].toNat 48 with hlo | hlo
                                · have t126 : decide ((48 : Int) ≤ (r3[k].toNat : Int)) = false := by simp; omega
                                  clear hdg
                                  go_wp2
                                  exact ⟨⟨k + 1, by omega, by simp⟩, by simp [intOf]; omega⟩
                                · have t126 : decide ((48 : Int) ≤ (r3[k].toNat : Int)) = true := by simp; omega
                                  have t129 : decide ((r3[k].toNat : Int) ≤ 57) = false := by simp; omega
                                  clear hdg
                                  go_wp2
                                  exact ⟨⟨k + 1, by omega, by simp⟩, by simp [intOf]; omega⟩
                              · have hke : k = uN (bl r3) := by omega
                                have Hke := Lib.hid hke
                                have hU2 : isU r3[k] = false := uN_end (bl r3) _ (by rw [← hke]; exact hget)
                                clear hget hke
                                by_cases h46 : r3[k].toNat = 46
                                · have t123 : ((r3[k].toNat : Int) == 46) = true := by simp; omega
                                  clear h46 hU2
                                  go_wp2
                                  go_meet
                                  case rel => exact ⟨k, rfl, Hke.out, by omega, rfl⟩
                                · have hdg : 48 ≤ r3[k].toNat ∧ r3[k].toNat ≤ 57 := by
                                    rw [← isDig_iff]
                                    unfold isU at hU2
                                    have : (r3[k] == 46) = false := by
                                      rw [beq_eq_false_iff_ne]; intro h; exact h46 (by rw [h]; rfl)
                                    rw [this] at hU2
                                    simpa using hU2
                                  have t123 : ((r3[k].toNat : Int) == 46) = false := by simp; omega
                                  have t126 : decide ((48 : Int) ≤ (r3[k].toNat : Int)) = true := by simp; omega
                                  have t129 : decide ((r3[k].toNat : Int) ≤ 57) = true := by simp; omega
                                  clear h46 hU2 hdg
                                  go_wp2
                                  go_meet
                                  case rel => exact ⟨k, rfl, Hke.out, by omega, rfl⟩
                            · have hke : k = uN (bl r3) := by omega
                              have Hke := Lib.hid hke
                              have hkr : k = r3.size := by omega
                              have Hkr := Lib.hid hkr
                              clear hke hkr
                              go_wp2
                              go_meet
                              case rel => exact ⟨k, rfl, Hke.out, Nat.le_of_eq Hkr.out, rfl⟩
                      case rest =>
                        obtain ⟨k3, rfl, Hk3, hk3, rfl⟩ := hcut
                        by_cases hk0 : k3 = 0
                        · have t133 : ((k3 : Int) == 0) = true := by simp; omega
                          have hbad : NoFit R := ht.bad Hne.out (no_unit _ (by rw [← hb1.out, ← HF.rest, ← Hk3.out, hk0, List.take_zero]; exact unitOf_nil))
                          clear hk0
                          go_wp2
                          go_ret2
                          exact Err.out _ _ (((Below.refl _ _).trans (Drawn0.below ⟨⟨n2, rfl⟩⟩)).alloc (by simp) _) hbad
                        · have t133 : ((k3 : Int) == 0) = false := by simp; omega
                          have hk3i : (k3 : Int) ≤ (r3.size : Int) := by omega
                          obtain ⟨un, hun⟩ : ∃ un, unitOf (bl (r3.extract 0 k3)) = un := ⟨_, rfl⟩
                          have hlk : ∀ m, (Instr.lookup 99 (.map (some bm)) (.string (r3.extract 0 k3)) true).run Tryd.prog (wc.drewN m) = .ok (.tuple #[.int .u64 un, .bool (!(un == 0))]) (wc.drewN m) := fun m => by
                            have := Hu0.out.look (wc.drewN m) rfl (r3.extract 0 k3) (by rw [← bl_len, bl_upto, List.length_take, bl_len]; omega)
                            rwa [hun] at this
                          have Hun : Hid (unitOf ((restF ((bl r).drop (digN (bl r)))).take (uN (restF ((bl r).drop (digN (bl r)))))) = un) := by
                            show _ = _
                            rw [← hb1.out, ← HF.rest, ← Hk3.out, ← bl_upto, hun]
                          have hg0 := Hu0.out.c0
                          have hsu : (r3.extract 0 k3).size ≤ r3.size := by rw [← bl_len, bl_upto, List.length_take, bl_len]; omega
                          have hk30 : 0 < k3 := by omega
                          clear hun hk0
                          by_cases hu0 : un = 0
                          · have hbad : NoFit R := ht.bad Hne.out (no_unit _ (by rw [Hun.out, hu0]))
                            have tok : (!(un == 0)) = false := by rw [hu0]; rfl
                            clear hu0
                            as_aux_lemma =>
                              go_wp2_with fail
                              refine (Qu.quote_any _ _ (by omega)).mono ?_
                              rintro e w1 ⟨q, rfl, hq, hbq⟩
                              have hq2 : q.size ≤ 100000000000 := by omega
                              have hbw : Below wc.heap.size wc w1 := (Drawn0.below ⟨⟨n2, rfl⟩⟩).trans (hbq.mono (Nat.le_refl _))
                              clear hq
                              go_wp2
                              go_ret2
                              exact Err.out _ _ (hbw.alloc hbw.size _) hbad
                          · have tok : (!(un == 0)) = true := by simp; omega
                            have hun1 : 1 ≤ un := by omega
                            have hun2 : un ≤ 3600000000000 := by
                              have := unitOf_units _ (by rw [Hun.out]; exact hu0)
                              rw [Hun.out] at this
                              simp at this; omega
                            by_cases hov : 9223372036854775808 / un < v
                            · as_aux_lemma =>
                                have t163 : decide ((9223372036854775808 : Int) / (un : Int) < (v : Int)) = true := by
                                  rw [decide_eq_true_eq]
                                  exact Int.ofNat_lt.2 hov
                                have hbad : NoFit R := ht.bad Hne.out (no_room _ (by rw [Hun.out, Hvv.out]; exact hov))
                                clear hov hu0
                                go_wp2
                                go_ret2
                                exact Err.out _ _ (((Below.refl _ _).trans (Drawn0.below ⟨⟨n2, rfl⟩⟩)).alloc (by simp) _) hbad
                            · have t163 : decide ((9223372036854775808 : Int) / (un : Int) < (v : Int)) = false := by
                                rw [decide_eq_false_iff_not]
                                exact fun h => hov (Int.ofNat_lt.1 h)
                              have hv3 : v ≤ 9223372036854775808 / un := Nat.le_of_not_lt hov
                              have hmul : v * un ≤ 9223372036854775808 := Nat.le_trans (Nat.mul_le_mul_right un hv3) (Nat.div_mul_le_self _ _)
                              have HPV : Hid (∀ y, ((f = 0 ∧ y = v * un) ∨ (f ≠ 0 ∧ (cntF (bl r1) ≤ 12 → un % 10 ^ cntF (bl r1) = 0 → y = v * un + f * (un / 10 ^ cntF (bl r1))))) → PV (bl r) y (bl (r3.extract k3 r3.size))) := by
                                intro y hy
                                have pv := part_val (bl r) un y f (by rw [Hvv.out]; exact hv2) Hnz.out Hun.out hu0 (by rw [Hvv.out]; exact hv3)
                                  (fun h => by rw [← hb1.out] at h ⊢; exact (HF.near h).1) (by rw [← hb1.out, Hvv.out]; exact hy)
                                rw [← hb1.out, ← HF.rest, ← Hk3.out, ← bl_from] at pv
                                exact pv
                              obtain ⟨y0, hy0⟩ : ∃ y0, v * un = y0 := ⟨_, rfl⟩
                              have hw0 : IntKind.u64.wrap ((v : Int) * (un : Int)) = (y0 : Int) := by
                                rw [← Int.natCast_mul, hy0, IntKind.wrap_u64]; omega
                              have Hy0 := Lib.hid hy0
                              have hy00 : y0 ≤ 9223372036854775808 := by omega
                              clear hov hmul hy0
                              go_upto_if 172 with (fail)
                              clear hw0 t163 hlk
                              go_cut [8] (fun yv w1 => ∃ y n3 : Nat, yv = .int .u64 y ∧ y ≤ 9223372036854775808 ∧ PV (bl r) y (bl (r3.extract k3 r3.size)) ∧ w1 = wc.drewN n3)
                              case first =>
                                by_cases hf0 : f = 0
                                · have t172 : decide (0 < f) = false := by simp; omega
                                  have hpv := HPV.out y0 (.inl ⟨hf0, Hy0.out.symm⟩)
                                  rw [t172]
                                  clear hf0
                                  go_wp2_with fail
                                  go_meet
                                  case rel => exact ⟨y0, n2, rfl, hy00, hpv, rfl⟩
                                · have t172 : decide (0 < f) = true := by simp; omega
                                  rw [t172]
                                  have hf1 : 1 ≤ f := by omega
                                  by_cases hex : cntF (bl r1) ≤ 12 ∧ un % 10 ^ cntF (bl r1) = 0
                                  · obtain ⟨hfv, hbv⟩ := HF.near hex.1
                                    have hbv := hbv hf0
                                    have hflt : f < 10 ^ cntF (bl r1) := by rw [hfv]; exact valF_lt _
                                    obtain ⟨x1, hx1, hi1⟩ := Fl.div_isInt un (cntF (bl r1)) (by have := unitOf_units _ (by rw [Hun.out]; exact hu0); rw [Hun.out] at this; exact this) hex.1 hex.2
                                    have hqle : 10 ^ cntF (bl r1) * (un / 10 ^ cntF (bl r1)) ≤ un := Nat.mul_div_le _ _
                                    have hq0 : 0 < un / 10 ^ cntF (bl r1) := by
                                      rcases Nat.eq_zero_or_pos (un / 10 ^ cntF (bl r1)) with h | h
                                      · have := Nat.div_add_mod un (10 ^ cntF (bl r1))
                                        rw [h, hex.2] at this
                                        omega
                                      · exact h
                                    have hfq : f * (un / 10 ^ cntF (bl r1)) ≤ 3600000000000 := Nat.le_trans (Nat.le_trans (Nat.mul_le_mul_right _ (Nat.le_of_lt hflt)) hqle) hun2
                                    have hf53 : f < 2 ^ 53 := by
                                      have : f * 1 ≤ f * (un / 10 ^ cntF (bl r1)) := Nat.mul_le_mul_left _ hq0
                                      omega
                                    obtain ⟨x2, hx2, hi2⟩ := Fl.mul_isInt _ _ f _ (Fl.ofInt_isInt f hf1 hf53) hi1 hf1 hq0 (by omega)
                                    obtain ⟨z, hz⟩ : ∃ z, f * (un / 10 ^ cntF (bl r1)) = z := ⟨_, rfl⟩
                                    rw [hz] at hi2 hfq
                                    have hx3 := Fl.toInt_isInt x2 z hi2 (by omega)
                                    rw [← hbv] at hx1
                                    have run1 := run_float_arith (P := Tryd.prog) (wc.drewN n2) .quo 93 .f64 _ _ x1 hx1
                                    have run2 := run_float_arith (P := Tryd.prog) (wc.drewN n2) .mul 93 .f64 _ _ x2 hx2
                                    have run3 := run_convert_float_int (P := Tryd.prog) (wc.drewN n2) 93 56 .f64 .u64 x2 _ (by rw [Tryd.underlying93]; rfl) Tryd.underlying56 hx3
                                    have hpv := HPV.out (y0 + z) (.inr ⟨hf0, fun _ _ => by rw [Hy0.out, hz]⟩)
                                    obtain ⟨y, hyz⟩ : ∃ y, y0 + z = y := ⟨_, rfl⟩
                                    rw [hyz] at hpv
                                    have hw1 : IntKind.u64.wrap ((y0 : Int) + (z : Int)) = (y : Int) := by rw [IntKind.wrap_u64]; omega
                                    clear hex hfv hbv hflt hx1 hi1 hqle hq0 hfq hf53 hx2 hi2 hz hx3 hyz hf0 hun2 hu0
                                    by_cases hbig : 9223372036854775808 < y
                                    · have t184 : decide ((9223372036854775808 : Int) < (y : Int)) = true := by rw [decide_eq_true_eq]; exact Int.ofNat_lt.2 hbig
                                      have hbad : NoFit R := ht.bad Hne.out (hpv.bad hbig)
                                      clear hbig hpv
                                      go_wp2
                                      go_ret2
                                      exact Err.out _ _ (((Below.refl _ _).trans (Drawn0.below ⟨⟨n2, rfl⟩⟩)).alloc (by simp) _) hbad
                                    · have t184 : decide ((9223372036854775808 : Int) < (y : Int)) = false := by rw [decide_eq_false_iff_not]; exact fun h => hbig (Int.ofNat_lt.1 h)
                                      have Hbig := Lib.hid hbig
                                      clear hbig
                                      go_wp2
                                      go_meet
                                      case rel => exact ⟨y, n2, rfl, Nat.le_of_not_lt Hbig.out, hpv, rfl⟩
                                  · obtain ⟨x1, m1, run1⟩ := Fl.arith_any (P := Tryd.prog) (wc.drewN n2) .quo (.inr rfl) 93 (floatOfInt .f64 (un : Int)) b
                                    obtain ⟨x2, m2, run2⟩ := Fl.arith_any (P := Tryd.prog) ((wc.drewN n2).drewN m1) .mul (.inl rfl) 93 (floatOfInt .f64 (f : Int)) x1
                                    obtain ⟨zi, m3, hzi, run3⟩ := Fl.toInt_any (P := Tryd.prog) (((wc.drewN n2).drewN m1).drewN m2) 93 56 x2 (by rw [Tryd.underlying93]; rfl) Tryd.underlying56
                                    obtain ⟨z, rfl⟩ := Int.eq_ofNat_of_zero_le hzi.1
                                    have hz2 := hzi.2
                                    simp only [World.drewN_drewN] at run1 run2 run3
                                    obtain ⟨y, hyz⟩ : ∃ y, (y0 + z) % 18446744073709551616 = y := ⟨_, rfl⟩
                                    have hw1 : IntKind.u64.wrap ((y0 : Int) + (z : Int)) = (y : Int) := by rw [IntKind.wrap_u64]; omega
                                    have hpv := HPV.out y (.inr ⟨hf0, fun h1 h2 => absurd ⟨h1, h2⟩ hex⟩)
                                    clear hex hyz hf0 hzi hu0
                                    by_cases hbig : 9223372036854775808 < y
                                    · have t184 : decide ((9223372036854775808 : Int) < (y : Int)) = true := by rw [decide_eq_true_eq]; exact Int.ofNat_lt.2 hbig
                                      have hbad : NoFit R := ht.bad Hne.out (hpv.bad hbig)
                                      clear hbig hpv
                                      go_wp2
                                      go_ret2
                                      exact Err.out _ _ (((Below.refl _ _).trans (Drawn0.below ⟨⟨_, rfl⟩⟩)).alloc (by simp) _) hbad
                                    · have t184 : decide ((9223372036854775808 : Int) < (y : Int)) = false := by rw [decide_eq_false_iff_not]; exact fun h => hbig (Int.ofNat_lt.1 h)
                                      have Hbig := Lib.hid hbig
                                      clear hbig
                                      go_wp2
                                      go_meet
                                      case rel => exact ⟨y, _, rfl, Nat.le_of_not_lt Hbig.out, hpv, rfl⟩
                              case rest =>
                                obtain ⟨y, n3, rfl, hy, hpv, rfl⟩ := hcut
                                obtain ⟨sn, hsn⟩ : ∃ sn, (d + y) % 18446744073709551616 = sn := ⟨_, rfl⟩
                                have hw : IntKind.u64.wrap ((d : Int) + (y : Int)) = (sn : Int) := by
                                  rw [IntKind.wrap_u64]; omega
                                have hnext := Tr.next ht Hne.out hpv hy hd sn hsn.symm
                                have hsz4 : (r3.extract k3 r3.size).size = r3.size - k3 := size_from r3 k3
                                have hm4 : (r3.extract k3 r3.size).size < r.size := by omega
                                have hm5 : (r3.extract k3 r3.size).size ≤ s.size := by omega
                                clear hsn hsz4 hpv
                                rcases hnext with ⟨hbig, hno⟩ | ⟨hle, ht'⟩
                                · have t193 : decide ((9223372036854775808 : Int) < (sn : Int)) = true := by
                                    rw [decide_eq_true_eq]; exact Int.ofNat_lt.2 hbig
                                  clear hbig
                                  go_wp2
                                  go_ret2
                                  exact Err.out _ _ (((Below.refl _ _).trans (Drawn0.below ⟨⟨n3, rfl⟩⟩)).alloc (by simp) _) hno
                                · have t193 : decide ((9223372036854775808 : Int) < (sn : Int)) = false := by
                                    rw [decide_eq_false_iff_not]; exact fun h => Nat.not_lt.2 hle (Int.ofNat_lt.1 h)
                                  have Hle := Lib.hid hle
                                  clear hle
                                  go_wp2
                                  go_roundg (r3.extract k3 r3.size).size
                                  case measure => exact hm4
                                  case rel => exact ⟨_, sn, n3, rfl, rfl, rfl, Hle.out, hm5, ht', rfl⟩
            · as_aux_lemma =>
                have hbad : NoFit R := ht.bad Hne.out (no_big _ hv)
                clear hv
                go_wp2
                go_ret2
                exact Err.out _ _ (((Below.refl _ _).trans (Drawn0.below ⟨⟨n0 + n1, rfl⟩⟩)).alloc (by simp) _) hbad
        · as_aux_lemma =>
            have t48 : ((r[0].toNat : Int) == 46) = false := by simp; omega
            have hbad : NoFit R := by
              refine ht.bad Hne.out ?_
              rw [Hl.out]
              refine no_first _ _ (fun h => hfirst (.inl (by rw [h]; rfl))) ?_
              cases hdg : isDig r[0] with
              | false => rfl
              | true => exact absurd (.inr ((isDig_iff _).1 hdg)) hfirst
            rcases Nat.lt_or_ge r[0].toNat 48 with hlo | hlo
            · have t52 : decide ((48 : Int) ≤ (r[0].toNat : Int)) = false := by simp; omega
              clear hfirst
              go_wp2
              go_ret2
              exact Err.out _ _ (((Below.refl _ _).trans (Drawn0.below ⟨⟨n0, rfl⟩⟩)).alloc (by simp) _) hbad
            · have t52 : decide ((48 : Int) ≤ (r[0].toNat : Int)) = true := by simp; omega
              have t56 : decide ((r[0].toNat : Int) ≤ 57) = false := by simp; omega
              clear hfirst
              go_wp2
              go_ret2
              exact Err.out _ _ (((Below.refl _ _).trans (Drawn0.below ⟨⟨n0, rfl⟩⟩)).alloc (by simp) _) hbad
end Go.Proofs.YtjkmidohcidkiaaDoor.Sp
