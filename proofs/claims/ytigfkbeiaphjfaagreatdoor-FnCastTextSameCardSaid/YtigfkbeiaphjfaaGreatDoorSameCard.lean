/- Proved here: the law FnCastTextSame answers true whatever it is handed, and what it was handed reads as before; and its tied card. -/
import Derived.Test.YtigfkbeiaphjfaaGreatDoorSame
import Derived.Test.YtigfkbeiaphjfaaGreatDoorTie
import Derived.Test.YtigfkbeiaphjfaaGreatDoorCards
import Derived.ProofKit
import Derived.OpenShut
import Derived.LaidMore
import Derived.Lay
import Derived.ChangeMaps5
import Derived.SevenTiedAt
import Derived.Stop.Joined
namespace Go.Proofs.YtigfkbeiaphjfaaGreatDoor.Ca
open Go.ChangeMaps Go.ChangeShapes Go.WideShapes Go.ChangeAt Go.RowKit

def laid8 : List (String × DataW Unit) := [("math/bits.deBruijn32tab", Rows.laid_math_bits_deBruijn32tab), ("math/bits.deBruijn64tab", Rows.laid_math_bits_deBruijn64tab), ("internal/strconv.optimize", Rows.laid_internal_strconv_optimize), ("internal/strconv.uint64pow10", Rows.laid_internal_strconv_uint64pow10), ("strconv.ErrRange", Rows.laid_strconv_ErrRange), ("strconv.ErrSyntax", Rows.laid_strconv_ErrSyntax), ("internal/strconv.leftcheats", Rows.laid_internal_strconv_leftcheats), ("internal/strconv.pow10Tab", Rows.laid_internal_strconv_pow10Tab)]

theorem own : ownKnob Tryz.prog.godebug = none := by kernel_rfl
theorem laidOut : laidOutB Tryz.prog = true := by kernel_rfl

set_option maxRecDepth 100000 in
set_option maxHeartbeats 1000000 in
theorem same_lifted (os : Os) (started : os.Started) (H : Type) (enc : TypeId × Value → H) :
    ReturnsInHanded {} Tryz.checked os 3 .any (fun w args => (Rows.fnCastTextSameSpec.pre enc Tryz.prog Tryz.f3 [] false w args ∧ laidMetH Tryz.prog laid8 w) ∧ sizedMet enc Tryz.prog Tryz.f3 (OpenSpec.ofChange Rows.fnCastTextSameSpec) false w args)
      (Rows.fnCastTextSameSpec.post enc Tryz.prog Tryz.f3 false true false false) := by
  refine returnsInHanded_of_change_and (C := Tryz.checked) (X := fun w _ => laidMetH Tryz.prog laid8 w) (fun _ _ _ hh h => h.of_heap hh) own started (by kernel_rfl) Tryz.func3
    (ChangeSpec.witness_shaped (enc := enc) (C := Tryz.checked) (os := os) (X := fun w _ => laidMetH Tryz.prog laid8 w) false (World.laidAll Tryz.prog os laid8) #[.string ⟨#[]⟩, .bool true] 8 (World.laidAll_os _ _ _)
      (World.shaped_of_ZipB (by kernel_rfl) (by kernel_rfl)) (by kernel_rfl) (by kernel_rfl) (by kernel_rfl)
      (by rw [MakeChecks.laidMetH_plain _ _ _ (by kernel_rfl)]; exact laidMet_laidAll _ (by kernel_rfl) (by kernel_rfl))) ?_
  intro W base args ds gs before hval0 hW _ _ hL _
  have hval : ∀ (j : Nat) t v, Tryz.f3.params[j]? = some t → args[j]? = some v → Value.okWide Tryz.prog W .any base t v := hval0
  have hW' := hW
  obtain ⟨p, q, hA0, hV, rfl, hfz, hnd⟩ := hW
  have hA : DataW.TrodAll enc Tryz.prog W 0 (fun _ => true) true Tryz.f3.params.toList args.toList ds p := hA0
  rw [Tryz.params3] at hA hval
  obtain ⟨v0, v1, d0, d1, p0, p1, rfl, rfl, rfl, h0, h1⟩ := trodAll_two hA
  obtain ⟨rfl, rfl⟩ := trodVars_none hV
  obtain ⟨s, rfl, rfl, rfl, ws⟩ := open_string Tryz.underlying9 (hval 0 9 v0 rfl rfl) h0
  obtain ⟨on, rfl, rfl, rfl⟩ := open_bool Tryz.underlying4 (hval 1 4 v1 rfl rfl) h1
  refine (FnCastTextSame_any s on W).mono fun e W' ⟨he, hbelow⟩ => ?_
  subst he
  refine ⟨_, rfl, _, _, _, [], [], [], hW', ?_, ?_, ?_, hbelow.frame _, fun h => by cases h⟩
  · exact trodAll_mk1 (shut_bool Tryz.underlying4 _)
  · exact trodAll_mk2 (shut_string Tryz.underlying9 ws) (shut_bool Tryz.underlying4 _)
  · rfl

theorem same_said : Rows.FnCastTextSameSaid :=
  OpenClaim.holds_of_wide 3 Tryz.f3 rfl rfl rfl rfl rfl rfl rfl ⟨rfl, rfl, rfl, rfl, rfl⟩ rfl rfl rfl rfl rfl (by kernel_rfl) Tryz.func3 (by kernel_rfl)
    (of_decide_eq_true (by kernel_rfl)) (by unfold Func.isWrapper; first | (rw [if_pos (by decide +kernel)]; kernel_rfl) | (rw [if_neg (by decide +kernel)]; exact ⟨rfl, rfl⟩))
    (fun os started H enc _ => same_lifted os started H enc)

theorem same_card : Rows.FnCastTextSameCardSaid :=
  Claim7.holds_tied_plain_at .later [] [.data, .data, .data, .data, .sentinel, .sentinel, .pinned, .pinned] true (true, "84ea5a753a9c26e7447f1a72cdecfecdadf2048445bb06394e3d841a8bc1c1a7") true
    same_said (fun _ h => by cases h) (by kernel_rfl) (fun _ h => by cases h) fnCastTextSame_row_tie rfl ⟨rfl, rfl⟩ (by kernel_rfl) rfl
    (fun f fn hf hfn => by
      obtain rfl : f = 3 := Option.some.inj ((show Tryz.prog.funcNamed "pub-ensign/laws.FnCastTextSame" = some 3 by kernel_rfl).symm.trans hf) |>.symm
      obtain rfl : fn = Tryz.f3 := (Option.some.inj (Tryz.func3.symm.trans hfn)).symm
      exact ⟨by kernel_rfl, fun j t ht => by
        rw [Tryz.params3] at ht
        have hm : t ∈ [9, 4] := by simpa using Array.mem_of_getElem? ht
        have hall : ([9, 4].all fun u => !Tryz.prog.wantsStandIn u) = true := by kernel_rfl
        exact (show Tryz.prog.wantsStandIn t = false by simpa using List.all_eq_true.1 hall t hm)⟩)
    (by kernel_rfl)
end Go.Proofs.YtigfkbeiaphjfaaGreatDoor.Ca
namespace Go.Proofs.YtigfkbeiaphjfaaGreatDoor
theorem fnCastTextSame_card : Rows.FnCastTextSameCardSaid := Ca.same_card
end Go.Proofs.YtigfkbeiaphjfaaGreatDoor
#print axioms Go.Proofs.YtigfkbeiaphjfaaGreatDoor.fnCastTextSame_card
