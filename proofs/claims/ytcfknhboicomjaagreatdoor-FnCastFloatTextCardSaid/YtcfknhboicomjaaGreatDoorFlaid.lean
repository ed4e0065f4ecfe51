/- What the listed package variables give the walks: the tables of powers of ten, the float's format, optimize. -/
import Derived.Test.YtcfknhboicomjaaGreatDoorRows
import Derived.Test.YtcfknhboicomjaaGreatDoorFla
import Derived.ProofKit
import Derived.OpenShut
import Derived.LaidMore
import Derived.Lib.LaidTab
import Derived.Stop.Joined
import Derived.Stop.LaidErr
import Derived.Deep.Slices
namespace Go.Proofs.YtcfknhboicomjaaGreatDoor.Ft
open Go.ChangeShapes Go.WideShapes Go.ChangeAt Go.RowKit Fy

def laid13 : List (String × DataW Unit) := [("math/bits.deBruijn32tab", Rows.laid_math_bits_deBruijn32tab), ("math/bits.deBruijn64tab", Rows.laid_math_bits_deBruijn64tab), ("internal/strconv.float32info", Rows.laid_internal_strconv_float32info), ("internal/strconv.float64info", Rows.laid_internal_strconv_float64info), ("internal/strconv.optimize", Rows.laid_internal_strconv_optimize), ("internal/strconv.powtab", Rows.laid_internal_strconv_powtab), ("internal/strconv.float64pow10", Rows.laid_internal_strconv_float64pow10), ("internal/strconv.float32pow10", Rows.laid_internal_strconv_float32pow10), ("internal/strconv.uint64pow10", Rows.laid_internal_strconv_uint64pow10), ("strconv.ErrRange", Rows.laid_strconv_ErrRange), ("strconv.ErrSyntax", Rows.laid_strconv_ErrSyntax), ("internal/strconv.leftcheats", Rows.laid_internal_strconv_leftcheats), ("internal/strconv.pow10Tab", Rows.laid_internal_strconv_pow10Tab)]

theorem laid_head {P : Program} {name : String} {d : DataW Unit} {rest : List (String × DataW Unit)} {W : World} {g : Nat} {t : TypeId} (hg : P.globalNamed name = some g) (hty : (P.globals[g]?).map (·.type) = some t) (h : laidMet P ((name, d) :: rest) W) :
    ∃ cs fuel p, W.var? P name = some cs ∧ DataW.trod (fun _ => ()) P W 0 (fun _ => true) false fuel t cs.toList = some (d, p) := by
  obtain ⟨ps, ⟨g', t', cs, fuel, p, q, hg', ht', hvar, hd, _, _⟩, _⟩ := h
  obtain rfl := Option.some.inj (hg.symm.trans hg')
  obtain rfl := Option.some.inj (hty.symm.trans ht')
  exact ⟨cs, fuel, p, hvar, hd⟩
set_option maxRecDepth 100000 in
theorem trodF {H : Type} {enc : TypeId × Value → H} {W : World} {b : Nat} {sp : Nat → Bool} {held : Bool} {fuel : Nat} {cs : List Value} {x : DataW H × List MemPlace} (h : DataW.trod enc Tryz.prog W b sp held fuel 25 cs = some x) : ∃ r, cs = [.float .f64 r] ∧ x = (.lit (.float .f64 r), []) ∧ (Lit.float .f64 r).wf = true := by
  cases fuel with
  | zero => simp [DataW.trod] at h
  | succ n =>
    unfold DataW.trod at h
    rw [Tryz.underlying25] at h
    split at h <;> simp_all
theorem gOpt : Tryz.prog.globalNamed "internal/strconv.optimize" = some 1 := by kernel_rfl
theorem tOpt : (Tryz.prog.globals[1]?).map (·.type) = some 4 := by kernel_rfl
theorem gInfo : Tryz.prog.globalNamed "internal/strconv.float64info" = some 10 := by kernel_rfl
theorem tInfo : (Tryz.prog.globals[10]?).map (·.type) = some 228 := by kernel_rfl
theorem gTens : Tryz.prog.globalNamed "internal/strconv.float64pow10" = some 13 := by kernel_rfl
theorem tTens : (Tryz.prog.globals[13]?).map (·.type) = some 89 := by kernel_rfl
theorem tPow : (Tryz.prog.globals[2]?).map (·.type) = some 180 := by kernel_rfl
theorem gTab : Tryz.prog.globalNamed "internal/strconv.pow10Tab" = some 5 := by kernel_rfl
theorem tTab : (Tryz.prog.globals[5]?).map (·.type) = some 211 := by kernel_rfl
theorem cells180 : Tryz.prog.cellsOf 180 = 20 := by kernel_rfl
theorem cells24 : Tryz.prog.cellsOf 24 = 1 := by kernel_rfl
theorem cells25 : Tryz.prog.cellsOf 25 = 1 := by kernel_rfl
theorem cells73 : Tryz.prog.cellsOf 73 = 1 := by kernel_rfl
theorem cells210 : Tryz.prog.cellsOf 210 = 2 := by kernel_rfl
theorem pow_data : (Rows.laid_internal_strconv_uint64pow10 : DataW Unit) = Lib.tabData .u64 Lib.pow10Tab := by kernel_rfl

theorem opt_of {W : World} {rest : List (String × DataW Unit)} (h : laidMet Tryz.prog (("internal/strconv.optimize", Rows.laid_internal_strconv_optimize) :: rest) W) : W.cell? ⟨1, 0, none⟩ = some (.bool true) := by
  obtain ⟨cs, fuel, p, hv, hd⟩ := laid_head gOpt tOpt h
  obtain ⟨b, hc, hx⟩ := DataW.trod_bool Tryz.underlying4 hd
  have hb : b = true := by
    have := congrArg Prod.fst hx
    unfold Rows.laid_internal_strconv_optimize at this
    simpa using this.symm
  have := World.var?_cell gOpt hv 0
  rw [this, ← Array.getElem?_toList, hc, hb]
  rfl
theorem u228 : ∃ f g h : Field, Tryz.prog.underlying 228 = some (.struct #[f, g, h]) ∧ f.type = 73 ∧ f.offset = 0 := by
  refine ⟨_, _, _, Tryz.underlying228, rfl, rfl⟩
set_option maxRecDepth 100000 in
theorem info_of {W : World} {rest : List (String × DataW Unit)} (h : laidMet Tryz.prog (("internal/strconv.float64info", Rows.laid_internal_strconv_float64info) :: rest) W) : W.cell? ⟨10, 0, none⟩ = some (.int .u64 52) := by
  obtain ⟨cs, fuel, p, hv, hd⟩ := laid_head gInfo tInfo h
  obtain ⟨f, f1, f2, hu, hft, hfo⟩ := u228
  obtain ⟨xs, n, _, hx, _, _, hf⟩ := DataW.trod_struct hu hd
  have h0 := hf 0 f rfl
  rw [hft, hfo, cells73] at h0
  have hx0 : xs.map (·.1) = [.lit (.int .u64 52), .lit (.int .u64 11), .lit (.int .i64 (-1023))] := by
    have := congrArg Prod.fst hx
    unfold Rows.laid_internal_strconv_float64info at this
    injection this with this
    exact this.symm
  match xs, hx0 with
  | x0 :: _, hx0 =>
    rw [List.map_cons] at hx0
    injection hx0 with hx0 _
    rw [List.getElem?_cons_zero] at h0
    obtain ⟨k, hc, hxx, _⟩ := DataW.trod_int Tryz.underlying73 h0
    have hk : k = 52 := by
      rw [hxx] at hx0
      simpa using hx0
    have h2 := congrArg (·[0]?) hc
    simp [List.getElem?_take] at h2
    rw [World.var?_cell gInfo hv 0]
    rw [hk] at h2
    simpa using h2

theorem tens_data : (Rows.laid_internal_strconv_float64pow10 : DataW Unit) = .slice (tenL.map fun b => .lit (.float .f64 b)) [] := by kernel_rfl
theorem tens_of {W : World} {rest : List (String × DataW Unit)} (h : laidMet Tryz.prog (("internal/strconv.float64pow10", Rows.laid_internal_strconv_float64pow10) :: rest) W) :
    ∃ (A : Addr) (c : Nat), W.cell? ⟨13, 0, none⟩ = some (.slice (some A) 23 c) ∧ ∀ k, k < 23 → W.cell? (A.add k) = some (.float .f64 (tenF k)) := by
  rw [tens_data] at h
  obtain ⟨cs, fuel, p, hv, hd⟩ := laid_head gTens tTens h
  rcases Deep.open_slice Tryz.underlying89 hd with ⟨_, hx⟩ | ⟨a, len, cap, m, n, D, Pl, hcs, _, hl, hm, hmm, hx, hel⟩
  · have := congrArg Prod.fst hx
    simp at this
  · have hx1 := congrArg Prod.fst hx
    injection hx1 with hx1 _
    have hlen : len = 23 := by
      have := congrArg List.length hx1
      rw [List.length_map, List.length_map, List.length_range] at this
      exact this.symm
    have hlm : len ≤ m := by rw [hmm]; split <;> omega
    refine ⟨a, cap, ?_, fun k hk => ?_⟩
    · rw [World.var?_cell gTens hv 0, ← Array.getElem?_toList, hcs, hlen]
      rfl
    · obtain ⟨cs', h1, h2⟩ := hel k (by omega)
      rw [cells25, Nat.mul_one] at h1
      obtain ⟨_, hcl, hcell⟩ := World.cells?_some h1
      obtain ⟨r, hc, hxx, _⟩ := trodF h2
      have hDk : D k = .lit (.float .f64 r) := congrArg Prod.fst hxx
      have hk2 : (tenL.map fun b => (DataW.lit (.float .f64 b) : DataW Unit))[k]? = some (D k) := by
        rw [hx1, List.getElem?_map, List.getElem?_range (by omega)]
        rfl
      have hr : r = tenF k := by
        rw [hDk, List.getElem?_map] at hk2
        obtain ⟨b, hb, he⟩ := Option.map_eq_some_iff.1 hk2
        have : b = r := by simpa using he
        rw [← this]
        unfold tenF
        rw [List.getD_eq_getElem?_getD, hb]
        rfl
      have h0 := hcell 0 (by omega)
      rw [hc] at h0
      have ha : (a.add k).add 0 = a.add k := by unfold Addr.add; split <;> simp_all
      rw [ha] at h0
      rw [h0, hr]
      rfl

theorem pow_of {W : World} {rest : List (String × DataW Unit)} (h : laidMet Tryz.prog (("internal/strconv.uint64pow10", Rows.laid_internal_strconv_uint64pow10) :: rest) W) : PowAt W := by
  rw [pow_data] at h
  exact Lib.tabIs_of_head pow_gn tPow Tryz.underlying180 Tryz.underlying24 cells24 cells180 h

theorem u210 : ∃ f g : Field, Tryz.prog.underlying 210 = some (.struct #[f, g]) ∧ f.type = 24 ∧ f.offset = 0 ∧ g.type = 24 ∧ g.offset = 1 := by
  refine ⟨_, _, Tryz.underlying210, rfl, rfl, rfl, rfl⟩
set_option maxRecDepth 100000 in
theorem ten_of {W : World} {rest : List (String × DataW Unit)} (h : laidMet Tryz.prog (("internal/strconv.pow10Tab", Rows.laid_internal_strconv_pow10Tab) :: rest) W) : TenAt W := by
  obtain ⟨cs, fuel, p, hv, hd⟩ := laid_head gTab tTab h
  obtain ⟨xs, m, _, hx, _, hxl, hf⟩ := DataW.trod_array Tryz.underlying211 hd
  have hx1 := congrArg Prod.fst hx
  have hd2 : (Rows.laid_internal_strconv_pow10Tab : DataW Unit) = .agg (Go.Pinned.pow10Rows.map fun x => .agg [.lit (.int .u64 x.1), .lit (.int .u64 x.2)]) := rfl
  rw [hd2] at hx1
  injection hx1 with hx1
  obtain ⟨f, g, hu, hft, hfo, hgt, hgo⟩ := u210
  intro q h0 h1
  obtain ⟨i, hi⟩ : ∃ i, (q + 348).toNat = i := ⟨_, rfl⟩
  have hi2 : i < 696 := by omega
  rw [hi]
  have hrow : rowOf q = Go.Pinned.pow10Rows.getD i (0, 0) := by unfold rowOf; rw [hi]
  have hfi := hf i hi2
  rw [cells210] at hfi
  obtain ⟨x, hxi⟩ : ∃ x, xs[i]? = some x := ⟨_, List.getElem?_eq_getElem (by omega)⟩
  rw [hxi] at hfi
  have hxd : Go.Pinned.pow10Rows[i]?.map (fun x => (DataW.agg [.lit (.int .u64 x.1), .lit (.int .u64 x.2)] : DataW Unit)) = some x.1 := by
    have := congrArg (·[i]?) hx1
    simp only [List.getElem?_map, hxi, Option.map_some] at this
    exact this
  obtain ⟨rw0, hrw, hxe⟩ := Option.map_eq_some_iff.1 hxd
  have hrow2 : rowOf q = rw0 := by rw [hrow, List.getD_eq_getElem?_getD, hrw]; rfl
  rw [hrow2]
  obtain ⟨ys, n, _, hy, _, _, hg⟩ := DataW.trod_struct hu hfi
  have hy0 : ys.map (·.1) = [.lit (.int .u64 rw0.1), .lit (.int .u64 rw0.2)] := by
    have := congrArg Prod.fst hy
    rw [← hxe] at this
    injection this with this
    exact this.symm
  have g0 := hg 0 f rfl
  have g1 := hg 1 g rfl
  rw [hft, hfo, cells24] at g0
  rw [hgt, hgo, cells24] at g1
  match ys, hy0 with
  | [y0, y1], hy0 =>
    simp only [List.map_cons, List.map_nil, List.cons.injEq, and_true] at hy0
    simp only [List.getElem?_cons_zero, List.getElem?_cons_succ] at g0 g1
    obtain ⟨k0, c0, e0, _⟩ := DataW.trod_int Tryz.underlying24 g0
    obtain ⟨k1, c1, e1, _⟩ := DataW.trod_int Tryz.underlying24 g1
    have hk0 : k0 = rw0.1 := by have := hy0.1; rw [e0] at this; simpa using this
    have hk1 : k1 = rw0.2 := by have := hy0.2; rw [e1] at this; simpa using this
    have a0 := congrArg (·[0]?) c0
    have a1 := congrArg (·[0]?) c1
    simp [List.getElem?_take, List.getElem?_drop] at a0 a1
    rw [World.var?_cell gTab hv (i * 2), World.var?_cell gTab hv (i * 2 + 1), ← hk0, ← hk1]
    exact ⟨a0, a1⟩

theorem vars_of {W : World} (h : laidMetH Tryz.prog laid13 W) : TenAt W ∧ PowAt W ∧ FVars W := by
  rw [MakeChecks.laidMetH_plain _ _ _ (by kernel_rfl)] at h
  have h3 := h.tail.tail.tail
  have h4 := h3.tail
  have h6 := h4.tail.tail
  have h8 := h6.tail.tail
  have h12 := h8.tail.tail.tail.tail
  exact ⟨ten_of h12, pow_of h8, opt_of h4, info_of h3, tens_of h6⟩
end Go.Proofs.YtcfknhboicomjaaGreatDoor.Ft
