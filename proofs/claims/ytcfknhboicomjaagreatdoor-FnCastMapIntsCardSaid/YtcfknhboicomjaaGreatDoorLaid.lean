/- What the listed package variables give the walks: strconv's two sentinels hold interface values; the pairs that came in, as castPairs reads them. -/
import Derived.Test.YtcfknhboicomjaaGreatDoorRows
import Derived.Test.YtcfknhboicomjaaGreatDoorPairs
import Derived.ProofKit
import Derived.OpenShut
import Derived.LaidMore
import Derived.Stop.Joined
import Derived.Stop.LaidErr
import Derived.Deep.Slices
namespace Go.Proofs.YtcfknhboicomjaaGreatDoor.Ld
open Go.ChangeShapes Go.WideShapes Go.ChangeAt Go.RowKit Ca

def laid8 : List (String × DataW Unit) := [("math/bits.deBruijn32tab", Rows.laid_math_bits_deBruijn32tab), ("math/bits.deBruijn64tab", Rows.laid_math_bits_deBruijn64tab), ("internal/strconv.optimize", Rows.laid_internal_strconv_optimize), ("internal/strconv.uint64pow10", Rows.laid_internal_strconv_uint64pow10), ("strconv.ErrRange", Rows.laid_strconv_ErrRange), ("strconv.ErrSyntax", Rows.laid_strconv_ErrSyntax), ("internal/strconv.leftcheats", Rows.laid_internal_strconv_leftcheats), ("internal/strconv.pow10Tab", Rows.laid_internal_strconv_pow10Tab)]
theorem gSyn : Tryz.prog.globalNamed "strconv.ErrSyntax" = some 3 := by kernel_rfl
theorem gRan : Tryz.prog.globalNamed "strconv.ErrRange" = some 4 := by kernel_rfl
theorem tSyn : (Tryz.prog.globals[3]?).map (·.type) = some 49 := by kernel_rfl
theorem tRan : (Tryz.prog.globals[4]?).map (·.type) = some 49 := by kernel_rfl
theorem u138 : Tryz.prog.underlying 138 = some (.pointer 140) := by kernel_rfl
theorem u140 : ∃ f : Field, Tryz.prog.underlying 140 = some (.struct #[f]) ∧ f.type = 9 ∧ f.offset = 0 := ⟨{ name := "s", type := 9, offset := 0, embedded := false, tag := "", pkgPath := "errors", byteOffset := 0 }, by kernel_rfl, rfl, rfl⟩
theorem star : "*" ++ "errors.errorString" = "*errors.errorString" := by decide
set_option maxRecDepth 100000 in
theorem row138 (u : TypeId) (h : Tryz.prog.typeName? 3 u = some "*errors.errorString") : u = 138 :=
  typeName_ptr_named (nm := "errors.errorString") (by rw [star]; kernel_rfl) (by kernel_rfl) (by decide) u (h.trans (congrArg some star.symm))
theorem cells9 : Tryz.prog.cellsOf 9 = 1 := by kernel_rfl

set_option maxRecDepth 100000 in
theorem err_of_laid {W : World} (h : laidMetH Tryz.prog laid8 W) : ErrVars W := by
  rw [MakeChecks.laidMetH_plain _ _ _ (by kernel_rfl)] at h
  have h5 := h.tail.tail.tail.tail
  obtain ⟨f, hu, ht, ho⟩ := u140
  obtain ⟨a1, s1, hv1, _, _, _⟩ := laid_sentinel h5 gRan tRan Tryz.underlying49 row138 u138 hu ht ho Tryz.underlying9 (by kernel_rfl) cells9
  obtain ⟨a2, s2, hv2, _, _, _⟩ := laid_sentinel h5.tail gSyn tSyn Tryz.underlying49 row138 u138 hu ht ho Tryz.underlying9 (by kernel_rfl) cells9
  have c1 : W.cell? ⟨4, 0, none⟩ = some (.iface 138 (.pointer (some a1))) := by simpa using World.var?_cell gRan hv1 0
  have c2 : W.cell? ⟨3, 0, none⟩ = some (.iface 138 (.pointer (some a2))) := by simpa using World.var?_cell gSyn hv2 0
  exact ⟨⟨_, c2, .inr ⟨_, _, rfl⟩⟩, _, c1, .inr ⟨_, _, rfl⟩⟩
end Go.Proofs.YtcfknhboicomjaaGreatDoor.Ld

namespace Go.Proofs.YtcfknhboicomjaaGreatDoor.Ld
open Go.ChangeShapes Go.WideShapes Go.ChangeAt Go.RowKit Ca

section
variable {H : Type} {enc : TypeId × Value → H} {W : World} {sp : Nat → Bool} {held : Bool}

theorem trod_float {t : TypeId} {k : FloatKind} {fuel : Nat} {cs : List Value} {x : DataW H × List MemPlace} (ht : Tryz.prog.underlying t = some (.float k)) (h : DataW.trod enc Tryz.prog W 0 sp held fuel t cs = some x) : ∃ b, cs = [.float k b] := by
  cases fuel with
  | zero => simp [DataW.trod] at h
  | succ n =>
    unfold DataW.trod at h
    rw [ht] at h
    split at h <;> simp_all
theorem trod_slice_form {t e : TypeId} {fuel : Nat} {v : Value} {x : DataW H × List MemPlace} (ht : Tryz.prog.underlying t = some (.slice e)) (h : DataW.trod enc Tryz.prog W 0 sp held fuel t [v] = some x) : ∃ (A : Option Addr) (n c : Nat), v = .slice A n c := by
  rcases Deep.open_slice ht h with ⟨hcs, _⟩ | ⟨a, len, cap, m, n, D, Pl, hcs, _⟩
  · injection hcs with hcs
    exact ⟨_, _, _, hcs⟩
  · injection hcs with hcs
    exact ⟨_, _, _, hcs⟩

theorem cells30 : Tryz.prog.cellsOf 30 = 8 := by kernel_rfl
theorem cells28 : Tryz.prog.cellsOf 28 = 7 := by kernel_rfl
theorem cells3 : Tryz.prog.cellsOf 3 = 1 := by kernel_rfl
theorem cells2 : Tryz.prog.cellsOf 2 = 1 := by kernel_rfl
theorem cells24 : Tryz.prog.cellsOf 24 = 1 := by kernel_rfl
theorem cells25 : Tryz.prog.cellsOf 25 = 1 := by kernel_rfl
theorem cells26 : Tryz.prog.cellsOf 26 = 1 := by kernel_rfl
theorem cells22 : Tryz.prog.cellsOf 22 = 1 := by kernel_rfl

set_option maxRecDepth 10000 in
theorem ents_in {fuel : Nat} {v : Value} {x : DataW H × List MemPlace} (h : DataW.trod enc Tryz.prog W 0 sp held fuel 22 [v] = some x) :
    ∃ (A : Option Addr) (len cap : Nat), v = .slice A len cap ∧ len ≤ cap ∧ RawAt W A len := by
  rcases Deep.open_slice Tryz.underlying22 h with ⟨hcs, _⟩ | ⟨a, len, cap, m, n, D, Pl, hcs, _, hl, hm, hmm, _, hel⟩
  · injection hcs with hcs
    exact ⟨none, 0, 0, hcs, Nat.le_refl _, fun j hj => absurd hj (by omega)⟩
  · have hlm : len ≤ m := by rw [hmm]; split <;> omega
    injection hcs with hcs
    refine ⟨some a, len, cap, hcs, hl, fun i hi => ?_⟩
    obtain ⟨cs', h1, h2⟩ := hel i (by omega)
    rw [cells30] at h1
    obtain ⟨_, hlen, hcell⟩ := World.cells?_some h1
    obtain ⟨xs, k, hk, _, _, hxl, hf⟩ := DataW.trod_struct Tryz.underlying30 h2
    match xs, hxl, cs', hlen with
    | [y0, y1], _, [v0, v1, v2, v3, v4, v5, v6, v7], _ =>
      have g0 := hf 0 _ rfl
      have g1 := hf 1 _ rfl
      simp [cells9, cells28] at g0 g1
      obtain ⟨key, e0, _⟩ := DataW.trod_string Tryz.underlying9 g0
      obtain ⟨ys, k2, _, _, _, hyl, hg⟩ := DataW.trod_struct Tryz.underlying28 g1
      match ys, hyl with
      | [z0, z1, z2, z3, z4, z5, z6], _ =>
        have q0 := hg 0 _ rfl
        have q1 := hg 1 _ rfl
        have q2 := hg 2 _ rfl
        have q3 := hg 3 _ rfl
        have q4 := hg 4 _ rfl
        have q5 := hg 5 _ rfl
        have q6 := hg 6 _ rfl
        simp [cells3, cells2, cells24, cells25, cells9, cells26, cells22] at q0 q1 q2 q3 q4 q5 q6
        obtain ⟨kk, f0, _⟩ := DataW.trod_int Tryz.underlying3 q0
        obtain ⟨ii, f1, _⟩ := DataW.trod_int Tryz.underlying2 q1
        obtain ⟨uu, f2, _⟩ := DataW.trod_int Tryz.underlying24 q2
        obtain ⟨ff, f3⟩ := trod_float Tryz.underlying25 q3
        obtain ⟨ss, f4, _⟩ := DataW.trod_string Tryz.underlying9 q4
        obtain ⟨A1, n1, c1, rfl⟩ := trod_slice_form Tryz.underlying26 q5
        obtain ⟨A2, n2, c2, rfl⟩ := trod_slice_form Tryz.underlying22 q6
        injection e0 with e0
        injection f0 with f0
        injection f1 with f1
        injection f2 with f2
        injection f3 with f3
        injection f4 with f4
        subst e0 f0 f1 f2 f3 f4
        exact ⟨a, key, kk, ii, uu, ff, ss, A1, n1, c1, A2, n2, c2, rfl, hcell 0 (by omega), hcell 1 (by omega), hcell 2 (by omega), hcell 3 (by omega), hcell 4 (by omega), hcell 5 (by omega), hcell 6 (by omega), hcell 7 (by omega)⟩
end
end Go.Proofs.YtcfknhboicomjaaGreatDoor.Ld
