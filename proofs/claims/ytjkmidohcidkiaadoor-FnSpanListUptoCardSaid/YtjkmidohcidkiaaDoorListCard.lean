/- Proved here: the law FnSpanList answers true whatever it is handed, and what it was handed reads as before, where what it reads is of bulk at most 1048576 (the second form); and its tied card. -/
import Derived.Test.YtjkmidohcidkiaaDoorNumbers
import Derived.Test.YtjkmidohcidkiaaDoorLaid
import Derived.SliceStrings
import Derived.Deep.SlicePairs
import Derived.Test.YtjkmidohcidkiaaDoorTie
import Derived.Test.YtjkmidohcidkiaaDoorCards
import Derived.SevenTiedAt
import Derived.Deep.DeepHandedRow
import Derived.Deep.DeepWitnessRowRef
namespace Go.Proofs.YtjkmidohcidkiaaDoor.Li
open Go.ChangeShapes Go.WideShapes Go.ChangeAt Go.RowKit Go.Proofs.YtjkmidohcidkiaaDoorW.PrintWords Go.Proofs.YtjkmidohcidkiaaDoor.Sp

section
variable {H : Type} {enc : TypeId × Value → H} {W : World} {sp : Nat → Bool} {held : Bool}

theorem bulk_one (d : DataW H) : 1 ≤ Rows.uptoBulk d := by
  cases d with
  | lit l => cases l <;> simp [Rows.uptoBulk]
  | nil => simp [Rows.uptoBulk]
  | ptr d => simp [Rows.uptoBulk]
  | slice elems spare => simp [Rows.uptoBulk]
  | agg parts => simp [Rows.uptoBulk]
  | iface t d => simp [Rows.uptoBulk]
  | map entries => simp [Rows.uptoBulk]
  | held h => simp [Rows.uptoBulk]
theorem bulk_len (l : List (DataW H)) : l.length ≤ Rows.uptoBulkAll l := by
  induction l with
  | nil => simp [Rows.uptoBulkAll]
  | cons x r ih => have := bulk_one x; simp only [Rows.uptoBulkAll, List.length_cons]; omega

/-- A slice of texts: what it holds, and its bulk. -/
theorem texts_bulk {fuel : Nat} {v : Value} {x : DataW H × List MemPlace} (h : DataW.trod enc Tryd.prog W 0 sp held fuel 22 [v] = some x) :
    ∃ (A : Option Addr) (cap : Nat) (l : List ByteArray), v = .slice A l.length cap ∧ l.length ≤ cap ∧ Kd.C Kd.string W A l.length l ∧ l.length + 1 ≤ Rows.uptoBulk x.1 := by
  rcases open_strings Tryd.underlying22 Tryd.underlying9 (by kernel_rfl) h with ⟨hcs, hx⟩ | ⟨a, len, cap, ss, hcs, _, hl, hm, hss, hx, hc, _⟩
  · refine ⟨none, 0, [], ?_, Nat.le_refl _, Kd.C_of_reads (d := ByteArray.empty) ⟨rfl, Nat.zero_le _, fun hn => absurd hn (by simp)⟩, by rw [hx]; simp [Rows.uptoBulk]⟩
    injection hcs
  · have hle : len ≤ ss.length := by rw [hss]; split <;> omega
    have hlen : (ss.take len).length = len := by rw [List.length_take]; omega
    refine ⟨some a, cap, ss.take len, ?_, by omega, ?_, ?_⟩
    · rw [hlen]; injection hcs
    · refine Kd.C_of_reads (d := ByteArray.empty) ⟨rfl, by rw [hlen]; unfold maxLen at hm; omega, fun _ => ⟨a, rfl, fun j hj => ?_⟩⟩
      rw [hc j (by omega)]
      simp [List.getD_eq_getElem?_getD, List.getElem?_take, show j < len by omega]
    · rw [hx, hlen]
      have := bulk_len (strs (H := H) (ss.take len))
      simp only [Rows.uptoBulk]
      simp [strs] at this ⊢
      omega

theorem ints_bulk {fuel : Nat} {v : Value} {x : DataW H × List MemPlace} (h : DataW.trod enc Tryd.prog W 0 sp held fuel 33 [v] = some x) :
    ∃ (A : Option Addr) (cap : Nat) (l : List Int), v = .slice A l.length cap ∧ l.length ≤ cap ∧ ReadsOf i64 0 W A l.length l ∧ l.length + 1 ≤ Rows.uptoBulk x.1 := by
  rcases open_ints Tryd.underlying33 Tryd.underlying2 (by kernel_rfl) h with ⟨hcs, hx⟩ | ⟨a, len, cap, zs, hcs, _, hl, hm, hzs, hx, hc, _⟩
  · refine ⟨none, 0, [], ?_, Nat.le_refl _, ⟨rfl, Nat.zero_le _, fun hn => absurd hn (by simp)⟩, by rw [hx]; simp [Rows.uptoBulk]⟩
    injection hcs
  · have hle : len ≤ zs.length := by rw [hzs]; split <;> omega
    have hlen : (zs.take len).length = len := by rw [List.length_take]; omega
    refine ⟨some a, cap, zs.take len, ?_, by omega, ?_, ?_⟩
    · rw [hlen]; injection hcs
    · refine ⟨rfl, by rw [hlen]; unfold maxLen at hm; omega, fun _ => ⟨a, rfl, fun j hj => ?_⟩⟩
      rw [hc j (by omega)]
      simp [List.getD_eq_getElem?_getD, List.getElem?_take, show j < len by omega]
    · rw [hx, hlen]
      have := bulk_len (lits (H := H) .i64 (zs.take len))
      simp only [Rows.uptoBulk]
      simp [lits] at this ⊢
      omega

theorem cells62 : Tryd.prog.cellsOf 62 = 3 := by kernel_rfl
theorem cells3 : Tryd.prog.cellsOf 3 = 1 := by kernel_rfl
theorem cells22 : Tryd.prog.cellsOf 22 = 1 := by kernel_rfl
instance : Inhabited StepV := ⟨⟨0, ByteArray.empty, []⟩⟩

theorem cost_sum (li : List Nat) (X : Nat → StepV) (D : Nat → DataW H) (h : ∀ i ∈ li, cost (X i) ≤ Rows.uptoBulk (D i)) : ((li.map X).map cost).sum ≤ Rows.uptoBulkAll (li.map D) := by
  induction li with
  | nil => simp [Rows.uptoBulkAll]
  | cons a r ih =>
    have h1 := h a (by simp)
    have h2 := ih (fun i hi => h i (by simp [hi]))
    simp only [List.map_cons, List.sum_cons, Rows.uptoBulkAll]
    omega

set_option maxRecDepth 10000 in
/-- The steps that came in. -/
theorem steps_in {fuel : Nat} {v : Value} {x : DataW H × List MemPlace} (h : DataW.trod enc Tryd.prog W 0 sp held fuel 34 [v] = some x) :
    ∃ (A : Option Addr) (cap : Nat) (l : List StepV), v = .slice A l.length cap ∧ l.length ≤ cap ∧ StepsAt W A l ∧ (l.map cost).sum + 1 ≤ Rows.uptoBulk x.1 := by
  rcases Deep.open_slice Tryd.underlying34 h with ⟨hcs, hx⟩ | ⟨a, len, cap, m, n, D, Pl, hcs, hb, hl, hm, hmm, hx, hel⟩
  · refine ⟨none, 0, [], ?_, Nat.le_refl _, fun i x hx => by simp at hx, by rw [hx]; simp [Rows.uptoBulk]⟩
    injection hcs
  · have hlm : len ≤ m := by rw [hmm]; split <;> omega
    have each : ∀ i, i < len → ∃ x : StepV, (∃ v : Value, W.cell? (a.add (i * 3)) = some (.int .i64 x.op) ∧ W.cell? ⟨(a.add (i * 3)).block, (a.add (i * 3)).off + 1, none⟩ = some (.string x.text) ∧ W.cell? ⟨(a.add (i * 3)).block, (a.add (i * 3)).off + 2, none⟩ = some v ∧ StepAt W x v) ∧ cost x ≤ Rows.uptoBulk (D i) := by
      intro i hi
      obtain ⟨cs', h1, h2⟩ := hel i (by omega)
      rw [cells62] at h1
      obtain ⟨_, hlen, hcell⟩ := World.cells?_some h1
      obtain ⟨xs, k, hk, hxy, _, hxl, hf⟩ := DataW.trod_struct Tryd.underlying62 h2
      match xs, hxl, cs', hlen with
      | [y0, y1, y2], _, [v0, v1, v2], _ =>
        have g0 := hf 0 _ rfl
        have g1 := hf 1 _ rfl
        have g2 := hf 2 _ rfl
        simp [cells3, Ld.cells9, cells22] at g0 g1 g2
        obtain ⟨z, e0, f0, _⟩ := DataW.trod_int Tryd.underlying3 g0
        obtain ⟨s, e1, f1, _⟩ := DataW.trod_string Tryd.underlying9 g1
        obtain ⟨B, cb, ts, e2, hcb, hC, hbk⟩ := texts_bulk g2
        have k0 := hcell 0 (by omega)
        have k1 := hcell 1 (by omega)
        have k2 := hcell 2 (by omega)
        injection e0 with e0
        injection e1 with e1
        subst e0; subst e1; subst e2
        refine ⟨⟨z, s, ts⟩, ⟨_, k0, k1, k2, ⟨B, cb, rfl, hcb, hC⟩⟩, ?_⟩
        have hd : D i = .agg [y0.1, y1.1, y2.1] := by have := congrArg Prod.fst hxy; simpa using this
        have hsz : s.data.toList.length = s.size := by rw [Array.length_toList]; rfl
        rw [hd, f1]
        simp only [Rows.uptoBulk, Rows.uptoBulkAll, cost, hsz]
        omega
    obtain ⟨X, hX⟩ := Deep.choose_lt each
    refine ⟨some a, cap, (List.range len).map X, ?_, by simpa using hl, fun i x hx => ?_, ?_⟩
    · simp
      injection hcs
    · rw [List.getElem?_map] at hx
      obtain ⟨j, hj, rfl⟩ := Option.map_eq_some_iff.1 hx
      obtain ⟨hjl, rfl⟩ := List.getElem?_eq_some_iff.1 hj
      simp at hjl
      simp only [List.getElem_range]
      obtain ⟨v, h1, h2, h3, h4⟩ := (hX i hjl).1
      exact ⟨a, v, rfl, h1, h2, h3, h4⟩
    · have := cost_sum (List.range len) X D (fun i hi => (hX i (List.mem_range.1 hi)).2)
      rw [hx]
      simp only [Rows.uptoBulk]
      omega
end
end Go.Proofs.YtjkmidohcidkiaaDoor.Li

namespace Go.Proofs.YtjkmidohcidkiaaDoor.Li
open Go.ChangeShapes Go.WideShapes Go.ChangeAt Go.RowKit Go.Proofs.YtjkmidohcidkiaaDoorW.PrintWords Go.Proofs.YtjkmidohcidkiaaDoor.Sp

theorem own : ownKnob Tryd.prog.godebug = none := by kernel_rfl
theorem laidOut : laidOutB Tryd.prog = true := by kernel_rfl

set_option maxRecDepth 100000 in
theorem door_met (os : Os) (args : Array Value) : laidMetH Tryd.prog Ld.laid2 ((World.doorLaid Tryd.prog 400 os).forCall (fun _ _ => 0) ⟨#[], args, []⟩).memory :=
  laidMetH_of_parts3 (fuel := 8) (laidMet_of_run' 8 (by kernel_rfl) (by kernel_rfl)) (by kernel_rfl) (by kernel_rfl)
theorem reads (os : Os) {H : Type} (enc : TypeId × Value → H) : ∃ places, DataW.whole enc Tryd.prog ((World.doorLaid Tryd.prog 400 os).forCall (fun _ _ => 0) ⟨#[], #[.slice none 0 0, .slice none 0 0], []⟩).memory Tryd.f4.params.toList Rows.fnSpanListSpec.vars false (#[Value.slice none 0 0, .slice none 0 0] : Array Value).toList 8 = some ([.nil, .nil], [], places) :=
  ⟨[], by kernel_rfl⟩

set_option maxRecDepth 100000 in
set_option maxHeartbeats 1000000 in
theorem contract (H : Type) (enc : TypeId × Value → H) (W : World) (base : Nat) (args : Array Value) (ds gs : List (DataW H)) (before : List MemPlace)
    (hval : ∀ (j : Nat) t v, Tryd.f4.params[j]? = some t → args[j]? = some v → Value.okWide Tryd.prog W .any base t v)
    (hW : DataW.Whole enc Tryd.prog Tryd.f4.params.toList Rows.fnSpanListSpec.vars false W args.toList ds gs before) (hk : Rows.uptoSmall H (ds ++ gs) = true) (hL : laidMetH Tryd.prog Ld.laid2 W) :
    Calls Tryd.prog 4 args W fun e W' => ∃ v, e = .returned v ∧ Rows.fnSpanListSpec.post enc Tryd.prog Tryd.f4 false true false false W args v W' := by
  have hW' := hW
  obtain ⟨p, q, hA0, hV, rfl, hfz, hnd⟩ := hW
  have hA : DataW.TrodAll enc Tryd.prog W 0 (fun _ => true) true Tryd.f4.params.toList args.toList ds p := hA0
  rw [Tryd.params4] at hA hval
  obtain ⟨v0, v1, d0, d1, p0, p1, rfl, rfl, rfl, h0, h1⟩ := trodAll_two hA
  obtain ⟨rfl, rfl⟩ := trodVars_none hV
  obtain ⟨a0, len0, cap0, rfl⟩ := okWide_slice Tryd.underlying33 (hval 0 33 v0 rfl rfl) 
  obtain ⟨a1, len1, cap1, rfl⟩ := okWide_slice Tryd.underlying34 (hval 1 34 v1 rfl rfl)
  obtain ⟨bm, a, hu⟩ := Ld.um_of_laid hL
  have hb : Rows.uptoBulkAll ([d0, d1] ++ []) ≤ 1048576 := of_decide_eq_true hk
  simp only [List.append_nil, Rows.uptoBulkAll] at hb
  clear hA0
  have hlt : ∀ x ∈ p0 ++ p1, x.block < W.heap.size := fun x hx => by simpa using hW'.lt x (by simpa using hx)
  have h0' := h0
  have h1' := h1
  obtain ⟨fuel0, hf0⟩ := h0'
  obtain ⟨fuel1, hf1⟩ := h1'
  obtain ⟨A, cap, df, hv0, hc0, hr0, hk0⟩ := ints_bulk (v := .slice a0 len0 cap0) hf0
  obtain ⟨A2, cap2, l, hv1, hc1, hr1, hk1⟩ := steps_in (v := .slice a1 len1 cap1) hf1
  cases hv0
  cases hv1
  have hroom : room df l l.length ≤ 4294967296 := by
    unfold room
    rw [List.take_length]
    simp only at hk0 hk1
    omega
  refine (FnSpanList_any _ _ df _ _ l W bm a hr0 hc0 hr1 hc1 hroom hu).mono fun e W' ⟨he, hbelow⟩ => ?_
  subst he
  refine ⟨_, rfl, _, _, _, [], p0 ++ p1, [], hW', ?_, ?_, ?_, hbelow.frame _, fun h => by cases h⟩
  · exact trodAll_mk1 (shut_bool Tryd.underlying4 _)
  · exact trodAll_mk2 (Below.trod laidOut (by kernel_rfl) (of_decide_eq_true (by kernel_rfl)) h0 hbelow (fun x hx => hlt x (List.mem_append_left _ hx))) (Below.trod laidOut (by kernel_rfl) (of_decide_eq_true (by kernel_rfl)) h1 hbelow (fun x hx => hlt x (List.mem_append_right _ hx)))
  · rfl

set_option maxRecDepth 100000 in
theorem lifted (os : Os) (started : os.Started) (H : Type) (enc : TypeId × Value → H) (F : Stop.Interp) :
    ReturnsInHanded {} Tryd.checked os 4 .any ((Rows.OpenSpec.upto Rows.fnSpanListSpec).preRow enc Tryd.prog Tryd.f4 Rows.fnSpanListUptoRow.domain false Rows.fnSpanListUptoRow.laid) (((Rows.OpenSpec.upto Rows.fnSpanListSpec).at F).post enc Tryd.prog Tryd.f4 false true false false) := by
  obtain ⟨places, hx⟩ := reads os enc
  refine returnsInHanded_of_row (C := Tryd.checked) (s := Rows.OpenSpec.upto Rows.fnSpanListSpec) own started (by kernel_rfl) Tryd.func4
    (witness_row_atRef (enc := enc) (C := Tryd.checked) false (World.doorLaid Tryd.prog 400 os) #[.slice none 0 0, .slice none 0 0] rfl (by kernel_rfl) (by kernel_rfl) (by kernel_rfl)
      (OpenSpec.preRow_of_cond 8 hx (by kernel_rfl) (fun k hk => by cases hk; kernel_rfl) (by kernel_rfl) (door_met os _))) ?_
  intro W base args ds gs before hval hW _ hcond _ hL _ _
  exact contract H enc W base args ds gs before hval hW (hcond _ rfl) hL

theorem said : Rows.FnSpanListUptoSaid :=
  OpenClaim.holds_of_cond 4 Tryd.f4 rfl rfl rfl rfl rfl rfl rfl ⟨rfl, rfl, rfl, rfl, rfl⟩ rfl rfl rfl rfl rfl (by kernel_rfl) Tryd.func4 (by kernel_rfl)
    (of_decide_eq_true (by kernel_rfl)) (by unfold Func.isWrapper; first | (rw [if_pos (by decide +kernel)]; kernel_rfl) | (rw [if_neg (by decide +kernel)]; exact ⟨rfl, rfl⟩))
    (fun os started H enc _ F => by rw [OpenClaim.pre_eq_preRow]; exact lifted os started H enc F)

theorem card : Rows.FnSpanListUptoCardSaid :=
  Claim7.holds_tied_plain_at .later [] [.sentinel, .mapped] true (true, "0410bcc8208a195be8cb5389ef86d37ffec65f3cd14760fee55f0b7ba8f3a747") false
    said (fun _ h => by cases h) (by kernel_rfl) (fun _ h => by cases h) fnSpanListUpto_row_tie rfl ⟨rfl, rfl⟩ (by kernel_rfl) rfl
    (fun f fn hf hfn => by
      obtain rfl : f = 4 := Option.some.inj ((show Tryd.prog.funcNamed "pub-ensign/laws.FnSpanList" = some 4 by kernel_rfl).symm.trans hf) |>.symm
      obtain rfl : fn = Tryd.f4 := (Option.some.inj (Tryd.func4.symm.trans hfn)).symm
      exact ⟨by kernel_rfl, fun j t ht => by
        rw [Tryd.params4] at ht
        have hm : t ∈ [33, 34] := by simpa using Array.mem_of_getElem? ht
        have hall : ([33, 34].all fun u => !Tryd.prog.wantsStandIn u) = true := by kernel_rfl
        exact (show Tryd.prog.wantsStandIn t = false by simpa using List.all_eq_true.1 hall t hm)⟩)
    (by kernel_rfl)
end Go.Proofs.YtjkmidohcidkiaaDoor.Li
namespace Go.Proofs.YtjkmidohcidkiaaDoor
theorem fnSpanListUpto_card : Rows.FnSpanListUptoCardSaid := Li.card
end Go.Proofs.YtjkmidohcidkiaaDoor
#print axioms Go.Proofs.YtjkmidohcidkiaaDoor.fnSpanListUpto_card
