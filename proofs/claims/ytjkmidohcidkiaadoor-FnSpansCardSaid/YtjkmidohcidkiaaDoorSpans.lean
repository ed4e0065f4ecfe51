/- Proved here: the law FnSpans answers true whatever it is handed, and what it was handed reads as before; and its tied card. -/
import Derived.Test.YtjkmidohcidkiaaDoorLaid
import Derived.Test.YtjkmidohcidkiaaDoorCall
import Derived.Test.YtjkmidohcidkiaaDoorTie
import Derived.Test.YtjkmidohcidkiaaDoorCards
import Derived.SliceStrings
import Derived.SevenTiedAt
namespace Go.Proofs.YtjkmidohcidkiaaDoor.Ld
open Go.ChangeShapes Go.WideShapes Go.ChangeAt Go.RowKit Go.Proofs.YtjkmidohcidkiaaDoor.Sp Go.Proofs.YtjkmidohcidkiaaDoorW.PrintWords

theorem own : ownKnob Tryd.prog.godebug = none := by kernel_rfl
theorem laidOut : laidOutB Tryd.prog = true := by kernel_rfl

set_option maxRecDepth 100000 in
theorem door_met (os : Os) (args : Array Value) : laidMetH Tryd.prog laid2 ((World.doorLaid Tryd.prog 400 os).forCall (fun _ _ => 0) ⟨#[], args, []⟩).memory :=
  laidMetH_of_parts3 (fuel := 8) (laidMet_of_run' 8 (by kernel_rfl) (by kernel_rfl)) (by kernel_rfl) (by kernel_rfl)

/-- A slice of texts that came in, in the walks' words. -/
theorem texts_in {H : Type} {enc : TypeId × Value → H} {W : World} {sp : Nat → Bool} {held : Bool} {fuel : Nat} {v : Value} {x : DataW H × List MemPlace}
    (h : DataW.trod enc Tryd.prog W 0 sp held fuel 22 [v] = some x) : ∃ (A : Option Addr) (cap : Nat) (l : List ByteArray), v = .slice A l.length cap ∧ l.length ≤ cap ∧ Kd.C Kd.string W A l.length l := by
  rcases open_strings Tryd.underlying22 Tryd.underlying9 (by kernel_rfl) h with ⟨hcs, _⟩ | ⟨a, len, cap, ss, hcs, _, hl, hm, hss, _, hc, _⟩
  · refine ⟨none, 0, [], ?_, Nat.le_refl _, Kd.C_of_reads (d := ByteArray.empty) ⟨rfl, Nat.zero_le _, fun hn => absurd hn (by simp)⟩⟩
    injection hcs
  · have hle : len ≤ ss.length := by rw [hss]; split <;> omega
    have hlen : (ss.take len).length = len := by rw [List.length_take]; omega
    refine ⟨some a, cap, ss.take len, ?_, by omega, ?_⟩
    · rw [hlen]; injection hcs
    · refine Kd.C_of_reads (d := ByteArray.empty) ⟨rfl, by rw [hlen]; unfold maxLen at hm; omega, fun _ => ⟨a, rfl, fun j hj => ?_⟩⟩
      rw [hc j (by omega)]
      simp [List.getD_eq_getElem?_getD, List.getElem?_take, show j < len by omega]

set_option maxRecDepth 100000 in
set_option maxHeartbeats 1000000 in
theorem lifted (os : Os) (started : os.Started) (H : Type) (enc : TypeId × Value → H) :
    ReturnsInHanded {} Tryd.checked os 3 .any (fun w args => (Rows.fnSpansSpec.pre enc Tryd.prog Tryd.f3 [] false w args ∧ laidMetH Tryd.prog laid2 w) ∧ sizedMet enc Tryd.prog Tryd.f3 (OpenSpec.ofChange Rows.fnSpansSpec) false w args)
      (Rows.fnSpansSpec.post enc Tryd.prog Tryd.f3 false true false false) := by
  refine returnsInHanded_of_change_and (C := Tryd.checked) (X := fun w _ => laidMetH Tryd.prog laid2 w) (fun _ _ _ hh h => h.of_heap hh) own started (by kernel_rfl) Tryd.func3
    (ChangeSpec.witness_shaped (enc := enc) (C := Tryd.checked) (os := os) (X := fun w _ => laidMetH Tryd.prog laid2 w) false (World.doorLaid Tryd.prog 400 os) #[.int .i64 0, .slice none 0 0] 8 rfl (World.shaped_of_RefB (by kernel_rfl) (by kernel_rfl)) (by kernel_rfl) (by kernel_rfl) (by kernel_rfl) (door_met os _)) ?_
  intro W base args ds gs before hval0 hW _ _ hL _
  have hval : ∀ (j : Nat) t v, Tryd.f3.params[j]? = some t → args[j]? = some v → Value.okWide Tryd.prog W .any base t v := hval0
  have hW' := hW
  obtain ⟨p, q, hA0, hV, rfl, hfz, hnd⟩ := hW
  have hA : DataW.TrodAll enc Tryd.prog W 0 (fun _ => true) true Tryd.f3.params.toList args.toList ds p := hA0
  rw [Tryd.params3] at hA hval
  obtain ⟨v0, v1, d0, d1, p0, p1, rfl, rfl, rfl, h0, h1⟩ := trodAll_two hA
  obtain ⟨rfl, rfl⟩ := trodVars_none hV
  obtain ⟨n, rfl, rfl, rfl, wn⟩ := open_int Tryd.underlying2 (hval 0 2 v0 rfl rfl) h0
  obtain ⟨a0, len0, cap0, rfl⟩ := okWide_slice Tryd.underlying22 (hval 1 22 v1 rfl rfl)
  obtain ⟨bm, a, hu⟩ := um_of_laid hL
  clear hA0 hval0
  have hlt : ∀ x ∈ p1, x.block < W.heap.size := fun x hx => by simpa using hW'.lt x (by simpa using hx)
  have h1' := h1
  obtain ⟨fuel, hf⟩ := h1'
  obtain ⟨A, cap, l, hv, hcap, hr⟩ := texts_in (v := .slice a0 len0 cap0) hf
  cases hv
  refine (Cl.FnSpans_any n _ _ l W bm a hr hcap hu).mono fun e W' ⟨he, hbelow⟩ => ?_
  subst he
  refine ⟨_, rfl, _, _, _, [], [] ++ p1, [], hW', ?_, ?_, ?_, hbelow.frame _, fun h => by cases h⟩
  · exact trodAll_mk1 (shut_bool Tryd.underlying4 _)
  · exact trodAll_mk2 (shut_int Tryd.underlying2 wn) (Below.trod laidOut (by kernel_rfl) (of_decide_eq_true (by kernel_rfl)) h1 hbelow hlt)
  · rfl

theorem said : Rows.FnSpansSaid :=
  OpenClaim.holds_of_wide 3 Tryd.f3 rfl rfl rfl rfl rfl rfl rfl ⟨rfl, rfl, rfl, rfl, rfl⟩ rfl rfl rfl rfl rfl (by kernel_rfl) Tryd.func3 (by kernel_rfl)
    (of_decide_eq_true (by kernel_rfl)) (by unfold Func.isWrapper; first | (rw [if_pos (by decide +kernel)]; kernel_rfl) | (rw [if_neg (by decide +kernel)]; exact ⟨rfl, rfl⟩))
    (fun os started H enc _ => lifted os started H enc)

theorem card : Rows.FnSpansCardSaid :=
  Claim7.holds_tied_plain_at .later [] [.sentinel, .mapped] true (true, "0410bcc8208a195be8cb5389ef86d37ffec65f3cd14760fee55f0b7ba8f3a747") false
    said (fun _ h => by cases h) (by kernel_rfl) (fun _ h => by cases h) fnSpans_row_tie rfl ⟨rfl, rfl⟩ (by kernel_rfl) rfl
    (fun f fn hf hfn => by
      obtain rfl : f = 3 := Option.some.inj ((show Tryd.prog.funcNamed "pub-ensign/laws.FnSpans" = some 3 by kernel_rfl).symm.trans hf) |>.symm
      obtain rfl : fn = Tryd.f3 := (Option.some.inj (Tryd.func3.symm.trans hfn)).symm
      exact ⟨by kernel_rfl, fun j t ht => by
        rw [Tryd.params3] at ht
        have hm : t ∈ [2, 22] := by simpa using Array.mem_of_getElem? ht
        have hall : ([2, 22].all fun u => !Tryd.prog.wantsStandIn u) = true := by kernel_rfl
        exact (show Tryd.prog.wantsStandIn t = false by simpa using List.all_eq_true.1 hall t hm)⟩)
    (by kernel_rfl)
end Go.Proofs.YtjkmidohcidkiaaDoor.Ld
namespace Go.Proofs.YtjkmidohcidkiaaDoor
theorem fnSpans_card : Rows.FnSpansCardSaid := Ld.card
end Go.Proofs.YtjkmidohcidkiaaDoor
#print axioms Go.Proofs.YtjkmidohcidkiaaDoor.fnSpans_card
