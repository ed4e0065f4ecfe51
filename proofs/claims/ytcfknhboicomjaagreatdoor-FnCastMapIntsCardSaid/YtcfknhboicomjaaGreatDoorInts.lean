/- The walk of the law FnCastMapInts: whatever the pairs, it returns true. -/
import Derived.Test.YtcfknhboicomjaaGreatDoorInt64s
namespace Go.Proofs.YtcfknhboicomjaaGreatDoor.Ca
open Go.RowKit Fl Lw Go.Proofs.YtcfknhboicomjaaGreatDoorW.PrintWords
open Mp (MapAt Turns RangeAt)

theorem castI_ex : ∃ R : Value → Option Int, ∀ v, Plain v → CastI v (R v) := by
  have : ∀ v : Value, ∃ r, Plain v → CastI v r := fun v => by
    by_cases h : Plain v
    · obtain ⟨r, hr⟩ := castI_any v h
      exact ⟨r, fun _ => hr⟩
    · exact ⟨none, fun h' => absurd h' h⟩
  exact ⟨fun v => Classical.choose (this v), fun v => Classical.choose_spec (this v)⟩
set_option maxRecDepth 100000 in
set_option maxHeartbeats 1000000 in
theorem FnCastMapInts_any (A : Option Addr) (len cap : Nat) (hcap : len ≤ cap) (w : World) (hr : RawAt w A len) (hErr : ErrVars w) :
    Calls Tryz.prog 4 #[.slice A len cap] w fun e w' => e = .returned (.bool true) ∧ Below w.heap.size w w' := by
  by_cases hbig : 2147483647 < len
  · clear hr
    have p1 : (2147483647 : Int) < (len : Int) := by omega
    go_enter Tryz.func4, Tryz.ntmps4
    go_wp2
    go_ret
    exact ⟨rfl, Below.refl _ _⟩
  have HR := Lib.hid hr
  have HERR := Lib.hid hErr
  clear hr hErr
  have p1 : ¬ (2147483647 : Int) < (len : Int) := by omega
  go_enter Tryz.func4, Tryz.ntmps4
  go_wp2_with fail
  refine (pairs_any A len cap hcap w HR.out).mono ?_
  rintro e w1 ⟨v, L, rfl, hlen, hG, hown, hb1⟩
  have hL60 : L.length ≤ 60 := by omega
  rw [← hlen] at hown
  obtain ⟨A2, cap2, rfl, hcap2, hE⟩ := ents_of_own hown
  obtain ⟨V, hV⟩ := valOf_ex
  obtain ⟨R, hR⟩ := castI_ex
  have HG := Lib.hid hG
  have HE := Lib.hid hE
  have HV := Lib.hid hV
  have HRR := Lib.hid hR
  have HERR1 := Lib.hid (HERR.out.below HERR.out.five hb1)
  clear hG hE hV hR hown HR HERR hlen p1 hbig hcap
  go_wp2_with fail
  go_loopw [22] (fun iv wr => ∃ i : Nat, i ≤ L.length ∧ iv = .int .i64 i ∧ Hid (∀ e ∈ L.take i, (R (V e)).isSome = true) ∧ Below w1.heap.size w1 wr) (fun iv _ => L.length - (intOf iv).toNat)
  case atStart => exact ⟨0, Nat.zero_le _, rfl, (fun e he => by simp at he), Below.refl _ _⟩
  case round =>
    obtain ⟨i, hi, rfl, HS, hb⟩ := hrel
    by_cases hlt : i < L.length
    · have p1 : (0 : Int) ≤ (i : Int) := by omega
      have p2 : (i : Int) < (L.length : Int) := by omega
      obtain ⟨e, he⟩ : ∃ e, L[i] = e := ⟨_, rfl⟩
      have he? : L[i]? = some e := by rw [List.getElem?_eq_getElem hlt, he]
      have HT := Lib.hid (take_snoc L i hlt)
      rw [he] at HT
      have hGe := HG.out e (List.mem_of_getElem? he?)
      obtain ⟨g, rfl, h0, h1, h2, h3, h4, h5, h6, h7⟩ := (HE.out.below hb) i e he?
      have hErr := fun o => (HERR1.out.below HERR1.out.five hb).below (HERR1.out.below HERR1.out.five hb).five (al_b wr o)
      have HC := Lib.hid (fun o => toInt_any e (V e) (R (V e)) (HV.out e hGe).2 (HRR.out _ (HV.out e hGe).1) _ (hErr o))
      simp only [entAny, anyV] at HC
      have sf := Wd.store_float
      clear he he? hGe hErr
      have hbe : ∀ o w2, Below (wr.alloc o).heap.size (wr.alloc o) w2 → Below w1.heap.size w1 w2 := fun o w2 h => (hb.alloc hb.size _).trans (h.mono (hb.alloc hb.size o).size)
      have HBE := Lib.hid hbe
      clear hbe
      cases hRe : R (V e) with
      | none =>
        rw [hRe] at HC
        clear HS HT
        go_wp2_with (go_at_call 11; refine (HC.out _).mono ?_; rintro e' w2 ⟨⟨n, rfl, _⟩, hb2⟩)
        go_ret
        exact ⟨rfl, hb1.trans ((HBE.out _ _ hb2).mono hb1.size)⟩
      | some y =>
        rw [hRe] at HC
        have HS2 : Hid (∀ e ∈ L.take (i + 1), (R (V e)).isSome = true) := by
          rw [HT.out]
          intro e' he'
          rcases List.mem_append.1 he' with h | h
          · exact HS.out e' h
          · rw [List.mem_singleton.1 h, hRe]; rfl
        clear HS HT hRe
        go_wp2_with (go_at_call 11; refine (HC.out _).mono ?_; rintro e' w2 ⟨⟨n, rfl, _⟩, hb2⟩)
        exact ⟨⟨i + 1, by omega, by simp, HS2, HBE.out _ _ hb2⟩, by simp [intOf]; omega⟩
    · obtain rfl : i = L.length := by omega
      have HS2 : Hid (∀ e ∈ L, ∃ y, R (V e) = some y) := fun e he => by
        have := HS.out e (by rw [List.take_length]; exact he)
        exact Option.isSome_iff_exists.1 this
      have HM := Lib.hid (mapI_any V HV.out (toInt R) A2 cap2 L wr hcap2 hL60 HG.out (HE.out.below hb) (HERR1.out.below HERR1.out.five hb) (fun k v hk => by
        obtain ⟨e, he, rfl⟩ := map_of_mem hk
        obtain ⟨y, hy⟩ := HS2.out e he
        refine ⟨y, by rw [toInt, hy]; rfl, ?_⟩
        have := HRR.out _ (HV.out e (HG.out e he)).1
        rwa [hy] at this))
      simp only [mapAny] at HM
      have hb1' := hb1.trans (hb.mono hb1.size)
      have HE2 := Lib.hid (HE.out.below hb)
      have HERR2 := Lib.hid (HERR1.out.below HERR1.out.five hb)
      clear HS hb hb1 HE HERR1
      go_wp2_with (go_at_call 12; refine HM.out.mono ?_; rintro e' w2 ⟨⟨b, Dm, rfl, hm2, hp⟩, hb2⟩; have hlm := map_len (P := Tryz.prog) hm2 (ty := 3) Tryz.underlying33; rw [perm_len hp] at hlm)
      have HK := Lib.hid (keys_any A2 cap2 L w2 hcap2 hL60 (HE2.out.below hb2))
      have HP := Lib.hid hp
      clear hlm HM hp
      go_wp2_with (go_at_call 9; refine HK.out.mono ?_; rintro e' w3 ⟨rfl, hb3⟩)
      have hb13 := hb2.trans (hb3.mono hb2.size)
      have hb23 := hb1'.trans (hb13.mono hb1'.size)
      have hm3 := MapAt_below hm2 hb3
      have HE3 := Lib.hid (HE2.out.below hb13)
      have HERR3 := Lib.hid (HERR2.out.below HERR2.out.five hb13)
      clear hb1' hb2 hb3 hb13 hm2 HE2 HERR2 HK
      go_loopw [52] (fun iv wr => ∃ i : Nat, i ≤ L.length ∧ iv = .int .i64 i ∧ Below w3.heap.size w3 wr) (fun iv _ => L.length - (intOf iv).toNat)
      case atStart => exact ⟨0, Nat.zero_le _, rfl, Below.refl _ _⟩
      case round =>
        obtain ⟨i, hi, rfl, hb⟩ := hrel
        by_cases hlt2 : i < L.length
        · have p1 : (0 : Int) ≤ (i : Int) := by omega
          have p2 : (i : Int) < (L.length : Int) := by omega
          obtain ⟨e, he⟩ : ∃ e, L[i] = e := ⟨_, rfl⟩
          have he? : L[i]? = some e := by rw [List.getElem?_eq_getElem hlt2, he]
          have hEr := HE3.out.below hb
          obtain ⟨x, hx⟩ := last_ex (List.mem_of_getElem? he?)
          obtain ⟨hxL, _⟩ := lastOf_mem hx
          have hGx := HG.out x hxL
          obtain ⟨y, hy⟩ := HS2.out x hxL
          have hcx := HRR.out _ (HV.out x hGx).1
          rw [hy] at hcx
          have H13 := Lib.hid (fun W hW => castInt_any x (V x) y (HV.out x hGx).2 hcx W hW)
          obtain ⟨x', _, hx', H10⟩ := last_open A2 cap2 L e.key hcap2 hL60
          obtain rfl := hx' x hx
          rw [hx] at H10
          have hlook : ∀ W, MapAt W b Dm → (Instr.lookup 33 (.map (some b)) (.string e.key) true).run Tryz.prog W = .ok (.tuple #[.int .i64 y, .bool true]) W := fun W hW => by
            have h := Mp.look (P := Tryz.prog) (et := 2) Tryz.underlying33 Tryz.underlying9 (z := .int .i64 0) (by kernel_rfl) hW e.key true
            rw [get_perm HP.out (by rw [mapV_keys]; exact mapOf_nodup V L), get_mapV, get_mapOf, hx] at h
            simpa [toInt, hy] using h
          have HLOOK := Lib.hid hlook
          have HERRw := Lib.hid (HERR3.out.below HERR3.out.five hb)
          have HER := Lib.hid (fun o => hEr.below (al_b wr o))
          have H10' := Lib.hid H10
          have HMW := Lib.hid (MapAt_below hm3 hb)
          obtain ⟨g, rfl, h0, h1, h2, h3, h4, h5, h6, h7⟩ := hEr i e he?
          simp only [entAny, anyV] at H13
          have sf := Wd.store_float
          clear he he? hGx hcx hx hxL hy hx' hEr hlook H10
          go_wp2_with (go_at_call 10; refine (H10'.out _ (HER.out _)).mono ?_; rintro e' w4 ⟨rfl, hb4⟩; have hal := al_b wr (.cells #[.string e.key, .int .i64 e.k, .int .i64 e.i, .int .u64 e.u, .float .f64 e.f, .string e.s, .slice none 0 0, .slice none 0 0] 30); have hlt4 : wr.heap.size < w4.heap.size := Nat.lt_of_lt_of_le (by simp) hb4.size; have hbw4 := hal.trans (hb4.mono hal.size); have g0 : w4.cell? ⟨wr.heap.size, 0, none⟩ = some (.string e.key) := (hb4.cell (p := ⟨wr.heap.size, 0, none⟩) (by simp)).trans (Wd.cellrow (heap_alloc_new wr _) 0 _ rfl); have HERR4 := Lib.hid (fun o => (HERRw.out.below HERRw.out.five hbw4).below (HERRw.out.below HERRw.out.five hbw4).five (al_b w4 o)); have g5 : ∀ o, (w4.alloc o).cell? ⟨wr.heap.size, 0, none⟩ = some (.string e.key) := fun o => ((al_b w4 o).cell (p := ⟨wr.heap.size, 0, none⟩) hlt4).trans g0; have hlk := fun o => HLOOK.out (w4.alloc o) (MapAt_below (MapAt_below HMW.out hbw4) (al_b w4 o)); have hbz := hb.trans (hbw4.mono hb.size); clear hal hb4 h0 h1 h2 h3 h4 h5 h6 h7 hbw4 HERRw HMW HER H10' hb HLOOK)
          go_wp2_with (go_at_call 13; refine (H13.out _ (HERR4.out _)).mono ?_; rintro e' w5 ⟨rfl, hb5⟩; have hal5 := al_b w4 (.cells #[.int .i64 x'.k, .int .i64 x'.i, .int .u64 x'.u, .float .f64 x'.f, .string x'.s, .slice none 0 0, .slice none 0 0] 28); have hbf := hbz.trans ((hal5.trans (hb5.mono hal5.size)).mono hbz.size); clear hal5 hb5 HERR4)
          exact ⟨⟨i + 1, by omega, by simp, hbf⟩, by simp [intOf]; omega⟩
        · go_wp2
          go_ret
          exact ⟨rfl, hb23.trans (hb.mono hb23.size)⟩
end Go.Proofs.YtcfknhboicomjaaGreatDoor.Ca
