/- Proved here: the law FnCastFloatText answers true whatever float it is handed, and what it was handed reads as before; and its tied card. No condition beyond the row's own (the listed package variables hold what the text lays). -/
import Derived.Test.YtcfknhboicomjaaGreatDoorFlaid
import Derived.Test.YtcfknhboicomjaaGreatDoorTie
import Derived.Test.YtcfknhboicomjaaGreatDoorCards
import Derived.Lay
import Derived.ChangeMaps5
import Derived.SevenTiedAt
namespace Go.Proofs.YtcfknhboicomjaaGreatDoor.Ft
open Go.ChangeMaps Go.ChangeShapes Go.WideShapes Go.ChangeAt Go.RowKit Fy Ieee

theorem FnCastFloatText_any (B : Nat) (h : B < 18446744073709551616) (w : World) (ht : TenAt w) (hp : PowAt w) (hv : FVars w) :
    Calls Tryz.prog 5 #[.float .f64 B] w fun e w' => e = .returned (.bool true) ∧ Below w.heap.size w w' := by
  obtain ⟨neg, ex, mt, hP, hB, he, hm⟩ := parts_of B h
  have hr63 : ex * 4503599627370496 + mt < 9223372036854775808 := by omega
  have ha := abs_bits neg (ex * 4503599627370496 + mt) hr63
  rw [← hB] at ha
  have hread := read_bits neg ex mt he hm
  rw [← hB] at hread
  have habs := read_bits false ex mt he hm
  rw [sbit_false, Nat.zero_add] at habs
  have hw := wri_any B neg ex mt hP hB he hm
  by_cases h47 : ex < 2047
  · have hw2 : Wri B (fun bs => Par (strOfNums bs) B ∧ 0 < (strOfNums bs).size) := fun w0 w v hT ht hp => (hw w0 w v hT ht hp).mono fun e w' ⟨v', bs, h1, h2, h3⟩ => ⟨v', bs, h1, h2 h47, h3⟩
    obtain ⟨m, i, hn, hn', hm1, hi1⟩ : ∃ m i, double.read B = .number neg m i ∧ double.read (ex * 4503599627370496 + mt) = .number false m i ∧ m ≤ 9007199254740991 ∧ i ≤ 971 := by
      by_cases h0 : ex = 0
      · rw [if_pos h0] at hread habs
        exact ⟨_, _, hread, habs, by omega, by omega⟩
      · rw [if_neg h0, if_pos h47] at hread habs
        exact ⟨_, _, hread, habs, by omega, by omega⟩
    have ho : double.order B B = some .eq := order_self B neg m i hn
    exact law_fin hw2 _ (by show (double.order B B != some .eq) = false; rw [ho]; rfl) (by show (double.order B B == some .eq) = true; rw [ho]; rfl) ha (order_max _ m i hn' hm1 hi1) w ht hp hv
  · have h0 : ¬ ex = 0 := by omega
    rw [if_neg h0, if_neg h47] at hread habs
    by_cases hz : mt = 0
    · rw [if_pos hz] at hread habs
      have ho : double.order B B = some .eq := order_inf B neg hread
      exact law_over hw _ false (by show (double.order B B != some .eq) = false; rw [ho]; rfl) ha (fun _ => order_max_inf _ habs) w ht hp
    · rw [if_neg hz] at hread
      have ho : double.order B B = none := order_nan B neg mt hread
      exact law_over hw _ true (by show (double.order B B != some .eq) = true; rw [ho]; rfl) ha (fun h => by cases h) w ht hp

theorem ownF : ownKnob Tryz.prog.godebug = none := by kernel_rfl

set_option maxRecDepth 100000 in
set_option maxHeartbeats 1000000 in
theorem float_lifted (os : Os) (started : os.Started) (H : Type) (enc : TypeId × Value → H) :
    ReturnsInHanded {} Tryz.checked os 5 .any (fun w args => (Rows.fnCastFloatTextSpec.pre enc Tryz.prog Tryz.f5 [] false w args ∧ laidMetH Tryz.prog laid13 w) ∧ sizedMet enc Tryz.prog Tryz.f5 (OpenSpec.ofChange Rows.fnCastFloatTextSpec) false w args)
      (Rows.fnCastFloatTextSpec.post enc Tryz.prog Tryz.f5 false true false false) := by
  refine returnsInHanded_of_change_and (C := Tryz.checked) (X := fun w _ => laidMetH Tryz.prog laid13 w) (fun _ _ _ hh h => h.of_heap hh) ownF started (by kernel_rfl) Tryz.func5
    (ChangeSpec.witness_shaped (enc := enc) (C := Tryz.checked) (os := os) (X := fun w _ => laidMetH Tryz.prog laid13 w) false (World.laidAll Tryz.prog os laid13) #[.float .f64 0] 8 (World.laidAll_os _ _ _)
      (World.shaped_of_ZipB (by kernel_rfl) (by kernel_rfl)) (by kernel_rfl) (by kernel_rfl) (by kernel_rfl)
      (by rw [MakeChecks.laidMetH_plain _ _ _ (by kernel_rfl)]; exact laidMet_laidAll _ (by kernel_rfl) (by kernel_rfl))) ?_
  intro W base args ds gs before hval0 hW _ _ hL _
  have hval : ∀ (j : Nat) t v, Tryz.f5.params[j]? = some t → args[j]? = some v → Value.okWide Tryz.prog W .any base t v := hval0
  have hW' := hW
  obtain ⟨p, q, hA0, hV, rfl, hfz, hnd⟩ := hW
  have hA : DataW.TrodAll enc Tryz.prog W 0 (fun _ => true) true Tryz.f5.params.toList args.toList ds p := hA0
  rw [Tryz.params5] at hA hval
  obtain ⟨v0, d0, rfl, rfl, h0⟩ := trodAll_one hA
  obtain ⟨rfl, rfl⟩ := trodVars_none hV
  obtain ⟨B, rfl, rfl, rfl, wB⟩ := open_float Tryz.underlying25 (hval 0 25 v0 rfl rfl) h0
  have hB : B < 18446744073709551616 := by
    simp only [Lit.wf, decide_eq_true_eq] at wB
    exact wB
  obtain ⟨hT, hPw, hF⟩ := vars_of hL
  refine (FnCastFloatText_any B hB W hT hPw hF).mono fun e W' ⟨he, hbelow⟩ => ?_
  subst he
  refine ⟨_, rfl, _, _, _, [], [], [], hW', ?_, ?_, ?_, hbelow.frame _, fun h => by cases h⟩
  · exact trodAll_mk1 (shut_bool Tryz.underlying4 _)
  · exact trodAll_mk1 (shut_float Tryz.underlying25 wB)
  · rfl

theorem float_said : Rows.FnCastFloatTextSaid :=
  OpenClaim.holds_of_wide 5 Tryz.f5 rfl rfl rfl rfl rfl rfl rfl ⟨rfl, rfl, rfl, rfl, rfl⟩ rfl rfl rfl rfl rfl (by kernel_rfl) Tryz.func5 (by kernel_rfl)
    (of_decide_eq_true (by kernel_rfl)) (by unfold Func.isWrapper; first | (rw [if_pos (by decide +kernel)]; kernel_rfl) | (rw [if_neg (by decide +kernel)]; exact ⟨rfl, rfl⟩))
    (fun os started H enc _ => float_lifted os started H enc)

theorem float_card : Rows.FnCastFloatTextCardSaid :=
  Claim7.holds_tied_plain_at .later [] [.data, .data, .widerDeep, .widerDeep, .data, .data, .data, .data, .data, .sentinel, .sentinel, .pinned, .pinned] true (true, "2eed9e4a6476620da735d8af238b1d9760194a7ee5f0b22e61b451beffc56271") true
    float_said (fun _ h => by cases h) (by kernel_rfl) (fun _ h => by cases h) fnCastFloatText_row_tie rfl ⟨rfl, rfl⟩ (by kernel_rfl) rfl
    (fun f fn hf hfn => by
      obtain rfl : f = 5 := Option.some.inj ((show Tryz.prog.funcNamed "pub-ensign/laws.FnCastFloatText" = some 5 by kernel_rfl).symm.trans hf) |>.symm
      obtain rfl : fn = Tryz.f5 := (Option.some.inj (Tryz.func5.symm.trans hfn)).symm
      exact ⟨by kernel_rfl, fun j t ht => by
        rw [Tryz.params5] at ht
        have hm : t ∈ [25] := by simpa using Array.mem_of_getElem? ht
        have hall : ([25].all fun u => !Tryz.prog.wantsStandIn u) = true := by kernel_rfl
        exact (show Tryz.prog.wantsStandIn t = false by simpa using List.all_eq_true.1 hall t hm)⟩)
    (by kernel_rfl)
end Go.Proofs.YtcfknhboicomjaaGreatDoor.Ft
namespace Go.Proofs.YtcfknhboicomjaaGreatDoor
theorem fnCastFloatText_card : Rows.FnCastFloatTextCardSaid := Ft.float_card
end Go.Proofs.YtcfknhboicomjaaGreatDoor
#print axioms Go.Proofs.YtcfknhboicomjaaGreatDoor.fnCastFloatText_card
