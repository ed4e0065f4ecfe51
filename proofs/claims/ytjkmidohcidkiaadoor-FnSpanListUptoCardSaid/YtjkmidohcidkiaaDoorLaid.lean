/- What the listed package variables give the walks: the map of units, the sentinel of the digits. -/
import Derived.Test.YtjkmidohcidkiaaDoorZz
import Derived.Test.YtjkmidohcidkiaaDoorRows
import Derived.ProofKit
import Derived.LaidMore
import Derived.OpenShut
import Derived.Stop.Joined
import Derived.Stop.LaidErr
namespace Go.Proofs.YtjkmidohcidkiaaDoor.Ld
open Go.ChangeShapes Go.WideShapes Go.ChangeAt Go.WideMaps Go.WideElems Go.RowKit Go.Proofs.YtjkmidohcidkiaaDoor.Sp

def laid2 : List (String × DataW Unit) := [("time.errLeadingInt", Rows.laid_time_errLeadingInt), ("time.unitMap", Rows.laid_time_unitMap)]
theorem gErr : Tryd.prog.globalNamed "time.errLeadingInt" = some 1 := by kernel_rfl
theorem gUnit : Tryd.prog.globalNamed "time.unitMap" = some 0 := by kernel_rfl
theorem tErr : (Tryd.prog.globals[1]?).map (·.type) = some 53 := by kernel_rfl
theorem tUnit : (Tryd.prog.globals[0]?).map (·.type) = some 99 := by kernel_rfl
theorem law : KeyLaw Tryd.prog 9 := string_law Tryd.underlying9

theorem unit_key (l : List UInt8) (zd : DataW Unit) : (Rows.laid_time_unitMap : DataW Unit).atKey (.string l) zd = if unitOf l = 0 then zd else .lit (.int .u64 (unitOf l)) := by
  by_cases h1 : l = [110, 115]
  · subst h1; rfl
  by_cases h2 : l = [117, 115]
  · subst h2; rfl
  by_cases h3 : l = [194, 181, 115]
  · subst h3; rfl
  by_cases h4 : l = [206, 188, 115]
  · subst h4; rfl
  by_cases h5 : l = [109, 115]
  · subst h5; rfl
  by_cases h6 : l = [115]
  · subst h6; rfl
  by_cases h7 : l = [109]
  · subst h7; rfl
  by_cases h8 : l = [104]
  · subst h8; rfl
  have hu : unitOf l = 0 := by unfold unitOf; simp [h1, h2, h3, h4, h5, h6, h7, h8]
  rw [if_pos hu]
  have e1 := Ne.symm h1
  have e2 := Ne.symm h2
  have e3 := Ne.symm h3
  have e4 := Ne.symm h4
  have e5 := Ne.symm h5
  have e6 := Ne.symm h6
  have e7 := Ne.symm h7
  have e8 := Ne.symm h8
  simp [Rows.laid_time_unitMap, DataW.atKey, Lit.sameKey, e1, e2, e3, e4, e5, e6, e7, e8]
theorem star : "*" ++ "errors.errorString" = "*errors.errorString" := by decide
set_option maxRecDepth 100000 in
theorem row109 (u : TypeId) (h : Tryd.prog.typeName? 3 u = some "*errors.errorString") : u = 109 :=
  typeName_ptr_named (nm := "errors.errorString") (by rw [star]; kernel_rfl) (by kernel_rfl) (by decide) u (h.trans (congrArg some star.symm))
theorem cells9 : Tryd.prog.cellsOf 9 = 1 := by kernel_rfl

set_option maxRecDepth 100000 in
theorem um_of_laid {W : World} (h : laidMetH Tryd.prog laid2 W) : ∃ bm a, UM W bm a := by
  rw [MakeChecks.laidMetH_plain _ _ _ (by kernel_rfl)] at h
  obtain ⟨a1, s1, hv1, _, _, _⟩ := laid_sentinel h gErr tErr Tryd.underlying53 row109 Tryd.underlying109 Tryd.underlying129 rfl rfl Tryd.underlying9 (by kernel_rfl) cells9
  have hc1 : W.cell? ⟨1, 0, none⟩ = some (.iface 109 (.pointer (some a1))) := by simpa using World.var?_cell gErr hv1 0
  obtain ⟨ps, ⟨g0, t0, cs0, f0, p0, q0, hg0, ht0, hv0, hd0, _⟩, _, _⟩ := h.tail
  obtain rfl := Option.some.inj (gUnit.symm.trans hg0)
  obtain rfl := Option.some.inj (tUnit.symm.trans ht0)
  rcases open_map Tryd.underlying99 hd0 with ⟨_, hx⟩ | ⟨bm, es, clock, m, rfl, hcs, hb, _, F, hx⟩
  · simp [Rows.laid_time_unitMap] at hx
  simp only [Prod.mk.injEq] at hx
  have hcell : W.cell? ⟨0, 0, none⟩ = some (.map (some bm)) := by
    have := World.var?_cell hg0 hv0 0
    rw [Array.eq_one_of_toList hcs] at this
    simpa using this
  have look : ∀ X : World, X.heap[bm]? = W.heap[bm]? → ∀ u : ByteArray, u.size ≤ 2147483647 → (Instr.lookup 99 (.map (some bm)) (.string u) true).run Tryd.prog X = .ok (.tuple #[.int .u64 (unitOf (bl u)), .bool (!(unitOf (bl u) == 0))]) X := by
    intro X hX u hs
    have zero : (zeroValue 56).run Tryd.prog X = .ok (.int .u64 0) X := by kernel_rfl
    have hbX := hX.trans hb
    have hkey := unit_key (bl u)
    rcases fit_lookup_ok (w := X) law Tryd.underlying99 zero hbX F (keyOf_string_mk (s := u) Tryd.underlying9 (by unfold maxLen; omega)) with ⟨hrun, hat⟩ | ⟨v, y, hrun, hRv, hat, _⟩
    · have h1 := hat .nil
      rw [← hx.1] at h1
      have h2 := hkey .nil
      rw [show bl u = u.data.toList from rfl] at h2
      rw [h2] at h1
      by_cases h0 : unitOf (bl u) = 0
      · rw [hrun, h0]; rfl
      · rw [if_neg (show ¬ unitOf u.data.toList = 0 from h0)] at h1; cases h1
    · obtain ⟨r, rfl, rfl, _⟩ := elemAt_int Tryd.underlying56 hRv
      have h1 := hat .nil
      rw [← hx.1] at h1
      have h2 := hkey .nil
      rw [show bl u = u.data.toList from rfl] at h2
      rw [h2] at h1
      by_cases h0 : unitOf (bl u) = 0
      · rw [if_pos (show unitOf u.data.toList = 0 from h0)] at h1; cases h1
      · rw [if_neg (show ¬ unitOf u.data.toList = 0 from h0)] at h1
        injection h1 with h1
        injection h1 with _ h1
        rw [hrun, ← h1]
        have : (unitOf (bl u) == 0) = false := by simpa using h0
        rw [this]; rfl
  exact ⟨bm, a1, hcell, hc1, (Array.getElem?_eq_some_iff.1 hb).1, look⟩
end Go.Proofs.YtjkmidohcidkiaaDoor.Ld
