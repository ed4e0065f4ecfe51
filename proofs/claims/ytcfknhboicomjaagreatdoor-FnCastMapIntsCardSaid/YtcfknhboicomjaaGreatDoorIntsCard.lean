/- Proved here: the law FnCastMapInts answers true whatever it is handed, and what it was handed reads as before; and its tied card. -/
import Derived.Test.YtcfknhboicomjaaGreatDoorInts
import Derived.Test.YtcfknhboicomjaaGreatDoorLaid
import Derived.Test.YtcfknhboicomjaaGreatDoorTie
import Derived.Test.YtcfknhboicomjaaGreatDoorCards
import Derived.Lay
import Derived.ChangeMaps5
import Derived.SevenTiedAt
namespace Go.Proofs.YtcfknhboicomjaaGreatDoor.Ld
open Go.ChangeMaps Go.ChangeShapes Go.WideShapes Go.ChangeAt Go.RowKit Ca

theorem ownI : ownKnob Tryz.prog.godebug = none := by kernel_rfl
theorem laidOutI : laidOutB Tryz.prog = true := by kernel_rfl

set_option maxRecDepth 100000 in
set_option maxHeartbeats 1000000 in
theorem ints_lifted (os : Os) (started : os.Started) (H : Type) (enc : TypeId × Value → H) :
    ReturnsInHanded {} Tryz.checked os 4 .any (fun w args => (Rows.fnCastMapIntsSpec.pre enc Tryz.prog Tryz.f4 [] false w args ∧ laidMetH Tryz.prog laid8 w) ∧ sizedMet enc Tryz.prog Tryz.f4 (OpenSpec.ofChange Rows.fnCastMapIntsSpec) false w args)
      (Rows.fnCastMapIntsSpec.post enc Tryz.prog Tryz.f4 false true false false) := by
  refine returnsInHanded_of_change_and (C := Tryz.checked) (X := fun w _ => laidMetH Tryz.prog laid8 w) (fun _ _ _ hh h => h.of_heap hh) ownI started (by kernel_rfl) Tryz.func4
    (ChangeSpec.witness_shaped (enc := enc) (C := Tryz.checked) (os := os) (X := fun w _ => laidMetH Tryz.prog laid8 w) false (World.laidAll Tryz.prog os laid8) #[.slice none 0 0] 8 (World.laidAll_os _ _ _)
      (World.shaped_of_ZipB (by kernel_rfl) (by kernel_rfl)) (by kernel_rfl) (by kernel_rfl) (by kernel_rfl)
      (by rw [MakeChecks.laidMetH_plain _ _ _ (by kernel_rfl)]; exact laidMet_laidAll _ (by kernel_rfl) (by kernel_rfl))) ?_
  intro W base args ds gs before hval0 hW _ _ hL _
  have hval : ∀ (j : Nat) t v, Tryz.f4.params[j]? = some t → args[j]? = some v → Value.okWide Tryz.prog W .any base t v := hval0
  have hW' := hW
  obtain ⟨p, q, hA0, hV, rfl, hfz, hnd⟩ := hW
  have hA : DataW.TrodAll enc Tryz.prog W 0 (fun _ => true) true Tryz.f4.params.toList args.toList ds p := hA0
  rw [Tryz.params4] at hA hval
  obtain ⟨v0, d0, rfl, rfl, h0⟩ := trodAll_one hA
  obtain ⟨rfl, rfl⟩ := trodVars_none hV
  obtain ⟨a0, len0, cap0, rfl⟩ := okWide_slice Tryz.underlying22 (hval 0 22 v0 rfl rfl)
  have hErr := err_of_laid hL
  clear hA0 hval0
  have hlt : ∀ x ∈ p, x.block < W.heap.size := fun x hx => by simpa using hW'.lt x (by simpa using hx)
  have h0' := h0
  obtain ⟨fuel, hf⟩ := h0'
  obtain ⟨A, len, cap, hv, hcap, hr⟩ := ents_in (v := .slice a0 len0 cap0) hf
  cases hv
  refine (FnCastMapInts_any _ _ _ hcap W hr hErr).mono fun e W' ⟨he, hbelow⟩ => ?_
  subst he
  refine ⟨_, rfl, _, _, _, [], p, [], hW', ?_, ?_, ?_, hbelow.frame _, fun h => by cases h⟩
  · exact trodAll_mk1 (shut_bool Tryz.underlying4 _)
  · exact trodAll_mk1 (Below.trod laidOutI (by kernel_rfl) (of_decide_eq_true (by kernel_rfl)) h0 hbelow hlt)
  · rfl

theorem ints_said : Rows.FnCastMapIntsSaid :=
  OpenClaim.holds_of_wide 4 Tryz.f4 rfl rfl rfl rfl rfl rfl rfl ⟨rfl, rfl, rfl, rfl, rfl⟩ rfl rfl rfl rfl rfl (by kernel_rfl) Tryz.func4 (by kernel_rfl)
    (of_decide_eq_true (by kernel_rfl)) (by unfold Func.isWrapper; first | (rw [if_pos (by decide +kernel)]; kernel_rfl) | (rw [if_neg (by decide +kernel)]; exact ⟨rfl, rfl⟩))
    (fun os started H enc _ => ints_lifted os started H enc)

theorem ints_card : Rows.FnCastMapIntsCardSaid :=
  Claim7.holds_tied_plain_at .later [] [.data, .data, .data, .data, .sentinel, .sentinel, .pinned, .pinned] true (true, "2eed9e4a6476620da735d8af238b1d9760194a7ee5f0b22e61b451beffc56271") true
    ints_said (fun _ h => by cases h) (by kernel_rfl) (fun _ h => by cases h) fnCastMapInts_row_tie rfl ⟨rfl, rfl⟩ (by kernel_rfl) rfl
    (fun f fn hf hfn => by
      obtain rfl : f = 4 := Option.some.inj ((show Tryz.prog.funcNamed "pub-ensign/laws.FnCastMapInts" = some 4 by kernel_rfl).symm.trans hf) |>.symm
      obtain rfl : fn = Tryz.f4 := (Option.some.inj (Tryz.func4.symm.trans hfn)).symm
      exact ⟨by kernel_rfl, fun j t ht => by
        rw [Tryz.params4] at ht
        have hm : t ∈ [22] := by simpa using Array.mem_of_getElem? ht
        have hall : ([22].all fun u => !Tryz.prog.wantsStandIn u) = true := by kernel_rfl
        exact (show Tryz.prog.wantsStandIn t = false by simpa using List.all_eq_true.1 hall t hm)⟩)
    (by kernel_rfl)
end Go.Proofs.YtcfknhboicomjaaGreatDoor.Ld
namespace Go.Proofs.YtcfknhboicomjaaGreatDoor
theorem fnCastMapInts_card : Rows.FnCastMapIntsCardSaid := Ld.ints_card
end Go.Proofs.YtcfknhboicomjaaGreatDoor
#print axioms Go.Proofs.YtcfknhboicomjaaGreatDoor.fnCastMapInts_card
