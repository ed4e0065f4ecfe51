-- PRINTED BY print.sh 35421559b90ae4d0a3588c463048766b98c2df88dd9212a6774a882060cdf62d: not written by this session
import Derived.Test.YtcfknhboicomjaaGreatDoorPFnCastMapInt64sx0
namespace Go.Proofs.YtcfknhboicomjaaGreatDoor.PFnCastMapInt64s
open Go.RowKit Go.Proofs.YtcfknhboicomjaaGreatDoorW.PrintWords Go.Proofs.YtcfknhboicomjaaGreatDoorW.PrintLast Go.Proofs.YtcfknhboicomjaaGreatDoorW.PrintMore
attribute [local go_sem] max2_int min2_int max_two min_two max_three min_three max_four min_four   -- for this text's walks alone
set_option linter.unusedVariables false
set_option linter.unusedSimpArgs false

-- NOT PRINTED: function 30 (laws_castWithin)

-- NOT PRINTED: function 18 (laws_castPlain)

-- NOT PRINTED: function 6 (laws_castPairs)

-- NOT PRINTED: function 59 (cast_indirect)

-- NOT PRINTED: function 60 (cast_resolveAlias)

-- NOT PRINTED: function 61 (errors_New)

-- NOT PRINTED: function 66 (cast_toNumber_int64)

-- NOT PRINTED: function 31 (cast_toNumberE_int64)

/-! ### strconv_lower: function 114 -/
def strconv_lower.f (a0 : Int) : Option (Int) := some (Go.bits .or .u8 a0 32)
set_option maxHeartbeats 8000000 in
set_option maxRecDepth 100000 in
theorem strconv_lower.calls (a0 : Int) (r : Int) (w : World) (h : strconv_lower.f a0 = some r) :
    Calls Tryz.prog 114 #[.int .u8 a0] w fun e w' => e = .returned (.int .u8 r) ∧ Drawn0 w w' := by
  have H : (some (Go.bits .or .u8 a0 32)) = some r := h
  clear h
  obtain rfl := Option.some.inj H
  go_enter Tryz.func114, Tryz.ntmps114
  go_wp2
  go_ret
  exact ⟨by first | rfl | (simp; done) | (simp [*]; done), by repeat (first | exact Drawn0.refl _ | apply Drawn0.step)⟩

end Go.Proofs.YtcfknhboicomjaaGreatDoor.PFnCastMapInt64s
