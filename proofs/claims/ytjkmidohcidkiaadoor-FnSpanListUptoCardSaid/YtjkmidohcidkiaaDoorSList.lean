/- The walk of the implementation's SpanList: a list of durations by steps. -/
import Derived.Test.YtjkmidohcidkiaaDoorSets
import Derived.Test.YtjkmidohcidkiaaDoorFits
namespace Go.Proofs.YtjkmidohcidkiaaDoor.Li
open Go.RowKit Go.Proofs.YtjkmidohcidkiaaDoorW.PrintWords Go.Proofs.YtjkmidohcidkiaaDoor.Sp Go.Proofs.YtjkmidohcidkiaaDoor.Fmt Go.Proofs.YtjkmidohcidkiaaDoor.Zz

/-- A row of pairs: a bool, and a list that the pair owns (and what else an element has). -/
def Pairs (W : World) (sz : Nat) (R : List (Bool × List Int)) (cs : List Value) : Prop :=
  cs.length = R.length * sz ∧ ∀ (i : Nat) (p : Bool × List Int), R[i]? = some p → ∃ v b, cs[i * sz]? = some (.bool p.1) ∧ cs[i * sz + 1]? = some v ∧ W.ownsRow b 2 1 v p.2.length (encs i64 p.2)
def RowsAt (W : World) (base : Nat) (e : TypeId) (sz : Nat) (ov : Value) (R : List (Bool × List Int)) : Prop := ∃ cs, W.ownsRow base e sz ov R.length cs ∧ Pairs W sz R cs
theorem RowsAt.nil (W : World) (base : Nat) (e : TypeId) (sz : Nat) : RowsAt W base e sz (.slice none 0 0) [] := ⟨[], own_nil _ _ _ _, by simp, fun i p h => by simp at h⟩
theorem RowsAt.move {W W' : World} {base : Nat} {e : TypeId} {sz : Nat} {ov : Value} {R : List (Bool × List Int)} (h : RowsAt W base e sz ov R)
    (hm : ∀ (k : Nat) (cells : Array Value) (t : TypeId), W.heap[k]? = some (.cells cells t (0, 0)) → t = e ∨ t = 2 → W'.heap[k]? = W.heap[k]?) : RowsAt W' base e sz ov R := by
  obtain ⟨cs, h1, h2, h3⟩ := h
  refine ⟨cs, own_move h1 (fun k hk => ?_), h2, fun i p hp => ?_⟩
  · obtain ⟨cells, hc⟩ := own_typed h1 k hk
    exact hm k cells e hc (.inl rfl)
  · obtain ⟨v, b, e1, e2, e3⟩ := h3 i p hp
    refine ⟨v, b, e1, e2, own_move e3 (fun k hk => ?_)⟩
    obtain ⟨cells, hc⟩ := own_typed e3 k hk
    exact hm k cells 2 hc (.inr rfl)
theorem RowsAt.below {W W' : World} {base : Nat} {e : TypeId} {sz : Nat} {ov : Value} {R : List (Bool × List Int)} (h : RowsAt W base e sz ov R) (hb : Below W.heap.size W W') : RowsAt W' base e sz ov R :=
  h.move fun k _ _ hk _ => hb.block k (blk_lt hk)
theorem RowsAt.fr {W W' : World} {base b0 D sz : Nat} {e : TypeId} {ov v : Value} {it : List Int} {ch : Bool} {R : List (Bool × List Int)} (h : RowsAt W base e sz ov R) (hd : Dsv W b0 D v it ch) (hf : Fr W W' D v) (he : e ≠ 84 ∧ e ≠ 89 ∧ e ≠ 77) : RowsAt W' base e sz ov R := by
  refine h.move fun k cells t hk ht => ?_
  have ht' : t ≠ 84 ∧ t ≠ 89 ∧ t ≠ 77 := by
    rcases ht with rfl | rfl
    · exact he
    · decide
  refine hf.block k (blk_lt hk) (fun e1 => ?_) (fun e1 => ?_) (fun e1 => ?_)
  · subst e1; rw [hd.cellP] at hk; injection hk with hk; injection hk with _ hk; exact ht'.1 hk.symm
  · subst e1; rw [hd.cellD] at hk; injection hk with hk; injection hk with _ hk; exact ht'.2.1 hk.symm
  · obtain ⟨c2, hc⟩ := own_typed hd.own k e1.symm
    rw [hc] at hk; injection hk with hk; injection hk with _ hk; exact ht'.2.2 hk.symm
theorem Fr.trans {w w1 w2 : World} {D : Nat} {v : Value} (h : Below w.heap.size w w1) (k : Fr w1 w2 D v) : Fr w w2 D v :=
  ⟨k.os.trans h.os, k.tape.trans h.tape, k.output.trans h.output, Nat.le_trans h.size k.size, fun i hi h1 h2 h3 => (k.block i (Nat.lt_of_lt_of_le hi h.size) h1 h2 h3).trans (h.block i hi)⟩
theorem Fr.base {w0 w w' : World} {D : Nat} {v : Value} {it : List Int} {ch : Bool} (h : Fr w w' D v) (hb : Below w0.heap.size w0 w) (hd : Dsv w w0.heap.size D v it ch) (hD : w0.heap.size ≤ D) : Below w0.heap.size w0 w' :=
  ⟨h.os.trans hb.os, h.tape.trans hb.tape, h.output.trans hb.output, Nat.le_trans hb.size h.size, fun k hk => (h.block k (Nat.lt_of_lt_of_le hk hb.size) (by omega) (by omega) (fun e => by have := own_base hd.own k e.symm; omega)).trans (hb.block k hk)⟩
theorem Dsv.grown {W W' : World} {base D : Nat} {v : Value} {it : List Int} {ch : Bool} {row : Option Nat} (h : Dsv W base D v it ch) (hg : W.grownBy W' row) (hne : some D ≠ row ∧ some (D + 1) ≠ row ∧ some (D + 2) ≠ row ∧ (v.ownBlock = none ∨ v.ownBlock ≠ row)) : Dsv W' base D v it ch :=
  ⟨blk_grown h.cellP hg hne.1, blk_grown h.cellC hg hne.2.1, blk_grown h.cellD hg hne.2.2.1, own_other h.own hg hne.2.2.2⟩
theorem Dsv.row_ne {W : World} {base D b n size : Nat} {v ov : Value} {it : List Int} {ch : Bool} {e : TypeId} {cs : List Value} (h : Dsv W base D v it ch) (hr : W.ownsRow b e size ov n cs) (he : e ≠ 84 ∧ e ≠ 85 ∧ e ≠ 89 ∧ e ≠ 77) :
    some D ≠ ov.ownBlock ∧ some (D + 1) ≠ ov.ownBlock ∧ some (D + 2) ≠ ov.ownBlock ∧ (v.ownBlock = none ∨ v.ownBlock ≠ ov.ownBlock) :=
  ⟨own_ne hr h.cellP he.1, own_ne hr h.cellC he.2.1, own_ne hr h.cellD he.2.2.1, own_type_ne h.own hr he.2.2.2.symm⟩
/-- Behind an append of a pair. -/
theorem RowsAt.snoc {W W' : World} {base b sz : Nat} {e : TypeId} {ov ov' v : Value} {R : List (Bool × List Int)} {cs ys : List Value} {err : Bool} {it : List Int} (h1 : W.ownsRow base e sz ov R.length cs) (h3 : Pairs W sz R cs) (he : e ≠ 2)
    (hg : W.grownBy W' ov.ownBlock) (ho : W'.ownsRow base e sz ov' (R.length + 1) (cs ++ ys)) (hl : ys.length = sz) (hsz : 2 ≤ sz) (y0 : ys[0]? = some (.bool err)) (y1 : ys[1]? = some v) (hv : W.ownsRow b 2 1 v it.length (encs i64 it)) : RowsAt W' base e sz ov' (R ++ [(err, it)]) := by
  have keep : ∀ {v b n xs}, W.ownsRow b 2 1 v n xs → W'.ownsRow b 2 1 v n xs := fun {v b n xs} hx => own_other hx hg (own_type_ne hx h1 he.symm)
  obtain ⟨h2, h3⟩ := h3
  refine ⟨_, by simpa using ho, by simp [h2, hl, Nat.add_mul], fun i p hp => ?_⟩
  by_cases hi : i < R.length
  · rw [List.getElem?_append_left hi] at hp
    obtain ⟨v, b, e1, e2, e3⟩ := h3 i p hp
    have hle : i * sz + sz ≤ R.length * sz := by rw [← Nat.succ_mul]; exact Nat.mul_le_mul_right _ hi
    exact ⟨v, b, by rw [List.getElem?_append_left (by omega)]; exact e1, by rw [List.getElem?_append_left (by omega)]; exact e2, keep e3⟩
  · have hi' : i = R.length := by
      have := (List.getElem?_eq_some_iff.1 hp).1
      simp at this; omega
    subst hi'
    simp at hp
    subst hp
    refine ⟨v, b, ?_, ?_, keep hv⟩
    · rw [List.getElem?_append_right (by omega), h2, Nat.sub_self]; exact y0
    · rw [List.getElem?_append_right (by omega), h2, show R.length * sz + 1 - R.length * sz = 1 by omega]; exact y1

theorem info45 : (Tryd.prog.info? 45).map (fun i => (i.zero, i.size, i.bytes)) = some (some (.agg #[.bool false, .slice none 0 0, .slice none 0 0]), 3, 56) := by kernel_rfl
theorem oc45 (b : Bool) (A : Option Addr) (n c : Nat) : ∀ u ∈ [Value.bool b, .slice A n c, .slice none 0 0], u.oneCell' = true := by
  intro u hu
  simp at hu
  rcases hu with rfl | rfl | rfl <;> rfl
theorem turn_istep {x : StepV} {it it' vs : List Int} {ch ch' err first setc : Bool} (hL : ImplOut (partsOf x) vs err) (h1 : first = true ↔ (x.op = 2 ∨ (x.op = 0 ∧ ch = false))) (h2 : setc = decide (x.op = 0))
    (h : (err = true ∧ it' = it ∧ ch' = ch) ∨ (err = false ∧ it' = (if first = true then vs else it ++ vs) ∧ ch' = (ch || setc))) : IStep x it ch err it' ch' := by
  refine ⟨vs, hL, ?_⟩
  rcases h with h | ⟨h3, h4, h5⟩
  · exact .inl h
  · refine .inr ⟨h3, ?_, by rw [h5, h2]⟩
    rw [h4, into]
    by_cases hf : first = true
    · rw [if_pos hf, if_pos (h1.1 hf)]
    · rw [if_neg hf, if_neg (fun h => hf (h1.2 h))]

/-- What SpanList gives. -/
def ListEnd (df : List Int) (l : List StepV) (w : World) (e : Ending) (w' : World) : Prop :=
  ∃ (v : Value) (R : List (Bool × List Int)) (it : List Int) (ch : Bool), e = .returned v ∧ RowsAt w' w.heap.size 45 3 v R ∧ IRun IStep df l l.length it ch R ∧ Below w.heap.size w w'

set_option maxRecDepth 100000 in
set_option maxHeartbeats 1000000 in
theorem slist_any (A : Option Addr) (cap : Nat) (df : List Int) (A2 : Option Addr) (cap2 : Nat) (l : List StepV) (w : World) (bm : Nat) (a : Addr) (hr : ReadsOf i64 0 w A df.length df) (hv : StepsAt w A2 l) (hcap : l.length ≤ cap2)
    (hn : l.length ≤ 2147483647) (hroom : room df l l.length ≤ 4294967296) (hfit : ∀ x ∈ l, Fit8 x) (hu : UM w bm a) :
    Calls Tryd.prog 11 #[.slice A df.length cap, .slice A2 l.length cap2] w (ListEnd df l w) := by
  have hdf : df.length ≤ 4294967296 := by unfold room at hroom; omega
  have HV := Lib.hid hv
  have HFIT := Lib.hid hfit
  have HROOM := Lib.hid hroom
  clear hv hfit hroom
  go_enter Tryd.func11, Tryd.ntmps11
  go_wp2_with fail
  refine (zzmake_any A cap df w hr hdf).mono ?_
  rintro e w1 ⟨D, v, rfl, hb1, hBD, hD3, hdsv⟩
  go_wp2_with fail
  go_loopw [7, 18] (fun ov iv wr => ∃ (k : Nat) (R : List (Bool × List Int)) (v : Value) (it : List Int) (ch : Bool), k ≤ l.length ∧ iv = .int .i64 k ∧ RowsAt wr w.heap.size 45 3 ov R ∧ Dsv wr w.heap.size D v it ch ∧ Below w.heap.size w wr ∧ D + 3 ≤ wr.heap.size ∧ Hid (IRun IStep df l k it ch R)) (fun _ iv _ => l.length - (intOf iv).toNat)
  case atStart => exact ⟨0, [], v, df, false, Nat.zero_le _, rfl, RowsAt.nil _ _ _ _, hdsv, hb1, by omega, .nil⟩
  case round =>
    clear hdsv hb1 hD3
    obtain ⟨k, R, v, it, ch, hk, rfl, hrows, hdsv, hb, hD3, HR⟩ := hrel
    by_cases hlt : k < l.length
    · have p1 : decide ((k : Int) < (l.length : Int)) = true := by simp; omega
      obtain ⟨x, hx⟩ : ∃ x, l[k] = x := ⟨_, rfl⟩
      have hx' : l[k]? = some x := by rw [List.getElem?_eq_getElem hlt, hx]
      obtain ⟨ad, xv, rfl, c0, c1, c2, hst⟩ := (HV.out.below hb) k x hx'
      obtain ⟨B, cc, rfl, hc1, hc2⟩ := hst
      have hF8 := HFIT.out x (List.mem_of_getElem? hx')
      have hitl : it.length ≤ 4294967296 := Nat.le_trans (Nat.le_trans (run_room istep_len HR.out) (room_le hk)) HROOM.out
      have hrl : R.length ≤ l.length := by rw [run_len HR.out]; exact Nat.le_trans (cnt_le _ _) hk
      obtain ⟨o62, ho62⟩ : ∃ o, Obj.cells #[.int .i64 x.op, .string x.text, .slice B x.texts.length cc] 62 = o := ⟨_, rfl⟩
      have hal : Below wr.heap.size wr (wr.alloc o62) := (Below.refl _ _).alloc (Nat.le_refl _) _
      have hbA := hb.trans (hal.mono hb.size)
      have hdA := hdsv.below hal
      have hrA := hrows.below hal
      have huA := um_below hu hbA
      have hcA := Kd.C_below hc2 hal
      have hDA : D + 3 ≤ (wr.alloc o62).heap.size := Nat.le_trans hD3 hal.size
      have hsA : w.heap.size ≤ (wr.alloc o62).heap.size := hbA.size
      rw [← ho62] at hbA hdA hrA huA hcA hDA hsA
      have HX := Lib.hid hx'
      have hts := hF8.1
      clear hal ho62 hx' hx hrows hdsv hb hD3 hc2
      by_cases h0 : x.op = 0
      · have t0 : (x.op == 0) = true := by simp [h0]
        have hpart : partsOf x = commas [] (bl x.text) := by unfold partsOf; rw [if_pos h0]
        have HP := Lib.hid hpart
        have H0 := Lib.hid h0
        clear hpart h0
        go_wp2_with fail
        refine (dset_any w.heap.size D v it ch x.text _ bm a hdA hDA hBD hts hitl huA).mono ?_
        rintro e w2 ⟨E, err, vs, v2, it2, ch2, rfl, hE, hL, hor, hd2, hf2⟩
        rw [← HP.out] at hL
        have HST := Lib.hid (turn_istep hL (by rw [H0.out]; cases ch <;> simp) (by rw [H0.out]; simp) hor)
        have htold : told x := by unfold told; rw [H0.out]; decide
        have HR2 := Lib.hid (IRun.step HR.out HX.out htold HST.out)
        have hrows2 := hrA.fr hdA hf2 (by decide)
        have hb2 : Below w.heap.size w w2 := hf2.base hbA hdA hBD
        have hD2 : D + 3 ≤ w2.heap.size := Nat.le_trans hDA hf2.size
        have hit2 : it2.length ≤ 4294967296 := Nat.le_trans (Nat.le_trans (run_room istep_len HR2.out) (room_le (by omega))) HROOM.out
        clear htold HST hL hor hf2 hrA hdA hbA huA hcA hDA hsA HR hitl
        have hd3 : Dsv w2.drew w.heap.size D v2 it2 ch2 := ⟨hd2.cellP, hd2.cellC, hd2.cellD, hd2.own⟩
        obtain ⟨cs, hr1, hr3⟩ := hrows2
        have HR3 := Lib.hid hr3
        have hr1d : w2.drew.ownsRow w.heap.size 45 3 u7 R.length cs := hr1.drew
        have hb2d : Below w.heap.size w w2.drew := below_drew1 hb2
        have hroom2 : (R.length + 1) * 56 ≤ 140737488355328 := by omega
        clear hr3
        rcases hE with ⟨rfl, rfl⟩ | ⟨p, rfl, rfl⟩
        · go_wp2_with fail
          go_region_law (first
            | ((with_reducible refine step_append_cells w.heap.size ?hw (.tmp 44) (.tmp 50) 36 45 (.agg #[.bool false, .slice none 0 0, .slice none 0 0]) 3 56 ?ho Tryd.underlying36 info45 ?hz ?h1 ?h2 u7 R.length cs [.bool false, .slice A5 it2.length c5, .slice none 0 0] ?hs ?hx ?hy (oc45 _ _ _ _) (own_below hr1d hb5) (Below.refl _ _) (Nat.le_trans hb2d.size hb5.size) hroom2 ?_); (case hw => rfl); (case ho => rfl); (case hz => rfl); (case h1 => omega); (case h2 => omega); (case hs => rfl); (case hx => rfl); (case hy => rfl); intro v1 w6 hown6 hb6 hg6 hat6)
            | (go_simp; go_at_call 38; refine (zznow_any w.heap.size D v2 it2 ch2 _ hd3 hit2).mono ?_; rintro e w5 ⟨r, rfl, hb5, hor5⟩; obtain ⟨A5, c5, rfl⟩ := own_slice hor5))
          have fin := RowsAt.snoc (own_below hr1d hb5) ⟨HR3.out.1, fun i p hp => by obtain ⟨v, b, e1, e2, e3⟩ := HR3.out.2 i p hp; exact ⟨v, b, e1, e2, own_below (own_drew e3) hb5⟩⟩ (by decide) hg6 hown6 rfl (by omega) rfl rfl hor5
          have hdf := (hd3.below hb5).grown hg6 ((hd3.below hb5).row_ne (own_below hr1d hb5) (by decide))
          have hbf : Below w.heap.size w w6 := (hb2d.trans (hb5.mono hb2d.size)).grown hg6 (Nat.le_trans hb2d.size hb5.size) (own_base (own_below hr1d hb5))
          go_wp2
          exact ⟨⟨k + 1, _, v2, it2, ch2, by omega, by simp, fin, hdf, hbf, Nat.le_trans hD2 (Nat.le_trans hb5.size hg6.size), HR2⟩, by simp [intOf]; omega⟩
        · go_wp2_with fail
          go_region_law (first
            | ((with_reducible refine step_append_cells w.heap.size ?hw (.tmp 44) (.tmp 50) 36 45 (.agg #[.bool false, .slice none 0 0, .slice none 0 0]) 3 56 ?ho Tryd.underlying36 info45 ?hz ?h1 ?h2 u7 R.length cs [.bool true, .slice A5 it2.length c5, .slice none 0 0] ?hs ?hx ?hy (oc45 _ _ _ _) (own_below hr1d hb5) (Below.refl _ _) (Nat.le_trans hb2d.size hb5.size) hroom2 ?_); (case hw => rfl); (case ho => rfl); (case hz => rfl); (case h1 => omega); (case h2 => omega); (case hs => rfl); (case hx => rfl); (case hy => rfl); intro v1 w6 hown6 hb6 hg6 hat6)
            | (go_simp; go_at_call 38; refine (zznow_any w.heap.size D v2 it2 ch2 _ hd3 hit2).mono ?_; rintro e w5 ⟨r, rfl, hb5, hor5⟩; obtain ⟨A5, c5, rfl⟩ := own_slice hor5))
          have fin := RowsAt.snoc (own_below hr1d hb5) ⟨HR3.out.1, fun i p hp => by obtain ⟨v, b, e1, e2, e3⟩ := HR3.out.2 i p hp; exact ⟨v, b, e1, e2, own_below (own_drew e3) hb5⟩⟩ (by decide) hg6 hown6 rfl (by omega) rfl rfl hor5
          have hdf := (hd3.below hb5).grown hg6 ((hd3.below hb5).row_ne (own_below hr1d hb5) (by decide))
          have hbf : Below w.heap.size w w6 := (hb2d.trans (hb5.mono hb2d.size)).grown hg6 (Nat.le_trans hb2d.size hb5.size) (own_base (own_below hr1d hb5))
          go_wp2
          exact ⟨⟨k + 1, _, v2, it2, ch2, by omega, by simp, fin, hdf, hbf, Nat.le_trans hD2 (Nat.le_trans hb5.size hg6.size), HR2⟩, by simp [intOf]; omega⟩
      · have t0 : (x.op == 0) = false := by simp [h0]
        by_cases h1 : x.op = 1
        · have t1 : (x.op == 1) = true := by simp [h1]
          have hpart : partsOf x = [bl x.text] := by unfold partsOf; rw [if_neg h0, if_pos h1]
          have HP := Lib.hid hpart
          have H0 := Lib.hid h1
          clear hpart h1 h0
          go_wp2_with fail
          refine (dappend_any w.heap.size D v it ch x.text _ bm a hdA hDA hBD hts hitl huA).mono ?_
          rintro e w2 ⟨E, err, vs, v2, it2, ch2, rfl, hE, hL, hor, hd2, hf2⟩
          rw [← HP.out] at hL
          have HST := Lib.hid (turn_istep hL (by rw [H0.out]; simp) (by rw [H0.out]; simp) hor)
          have htold : told x := by unfold told; rw [H0.out]; decide
          have HR2 := Lib.hid (IRun.step HR.out HX.out htold HST.out)
          have hrows2 := hrA.fr hdA hf2 (by decide)
          have hb2 : Below w.heap.size w w2 := hf2.base hbA hdA hBD
          have hD2 : D + 3 ≤ w2.heap.size := Nat.le_trans hDA hf2.size
          have hit2 : it2.length ≤ 4294967296 := Nat.le_trans (Nat.le_trans (run_room istep_len HR2.out) (room_le (by omega))) HROOM.out
          clear htold HST hL hor hf2 hrA hdA hbA huA hcA hDA hsA HR hitl
          have hd3 : Dsv w2.drew w.heap.size D v2 it2 ch2 := ⟨hd2.cellP, hd2.cellC, hd2.cellD, hd2.own⟩
          obtain ⟨cs, hr1, hr3⟩ := hrows2
          have HR3 := Lib.hid hr3
          have hr1d : w2.drew.ownsRow w.heap.size 45 3 u7 R.length cs := hr1.drew
          have hb2d : Below w.heap.size w w2.drew := below_drew1 hb2
          have hroom2 : (R.length + 1) * 56 ≤ 140737488355328 := by omega
          clear hr3
          rcases hE with ⟨rfl, rfl⟩ | ⟨p, rfl, rfl⟩
          · go_wp2_with fail
            go_region_law (first
              | ((with_reducible refine step_append_cells w.heap.size ?hw (.tmp 44) (.tmp 50) 36 45 (.agg #[.bool false, .slice none 0 0, .slice none 0 0]) 3 56 ?ho Tryd.underlying36 info45 ?hz ?h1 ?h2 u7 R.length cs [.bool false, .slice A5 it2.length c5, .slice none 0 0] ?hs ?hx ?hy (oc45 _ _ _ _) (own_below hr1d hb5) (Below.refl _ _) (Nat.le_trans hb2d.size hb5.size) hroom2 ?_); (case hw => rfl); (case ho => rfl); (case hz => rfl); (case h1 => omega); (case h2 => omega); (case hs => rfl); (case hx => rfl); (case hy => rfl); intro v1 w6 hown6 hb6 hg6 hat6)
              | (go_simp; go_at_call 38; refine (zznow_any w.heap.size D v2 it2 ch2 _ hd3 hit2).mono ?_; rintro e w5 ⟨r, rfl, hb5, hor5⟩; obtain ⟨A5, c5, rfl⟩ := own_slice hor5))
            have fin := RowsAt.snoc (own_below hr1d hb5) ⟨HR3.out.1, fun i p hp => by obtain ⟨v, b, e1, e2, e3⟩ := HR3.out.2 i p hp; exact ⟨v, b, e1, e2, own_below (own_drew e3) hb5⟩⟩ (by decide) hg6 hown6 rfl (by omega) rfl rfl hor5
            have hdf := (hd3.below hb5).grown hg6 ((hd3.below hb5).row_ne (own_below hr1d hb5) (by decide))
            have hbf : Below w.heap.size w w6 := (hb2d.trans (hb5.mono hb2d.size)).grown hg6 (Nat.le_trans hb2d.size hb5.size) (own_base (own_below hr1d hb5))
            go_wp2
            exact ⟨⟨k + 1, _, v2, it2, ch2, by omega, by simp, fin, hdf, hbf, Nat.le_trans hD2 (Nat.le_trans hb5.size hg6.size), HR2⟩, by simp [intOf]; omega⟩
          · go_wp2_with fail
            go_region_law (first
              | ((with_reducible refine step_append_cells w.heap.size ?hw (.tmp 44) (.tmp 50) 36 45 (.agg #[.bool false, .slice none 0 0, .slice none 0 0]) 3 56 ?ho Tryd.underlying36 info45 ?hz ?h1 ?h2 u7 R.length cs [.bool true, .slice A5 it2.length c5, .slice none 0 0] ?hs ?hx ?hy (oc45 _ _ _ _) (own_below hr1d hb5) (Below.refl _ _) (Nat.le_trans hb2d.size hb5.size) hroom2 ?_); (case hw => rfl); (case ho => rfl); (case hz => rfl); (case h1 => omega); (case h2 => omega); (case hs => rfl); (case hx => rfl); (case hy => rfl); intro v1 w6 hown6 hb6 hg6 hat6)
              | (go_simp; go_at_call 38; refine (zznow_any w.heap.size D v2 it2 ch2 _ hd3 hit2).mono ?_; rintro e w5 ⟨r, rfl, hb5, hor5⟩; obtain ⟨A5, c5, rfl⟩ := own_slice hor5))
            have fin := RowsAt.snoc (own_below hr1d hb5) ⟨HR3.out.1, fun i p hp => by obtain ⟨v, b, e1, e2, e3⟩ := HR3.out.2 i p hp; exact ⟨v, b, e1, e2, own_below (own_drew e3) hb5⟩⟩ (by decide) hg6 hown6 rfl (by omega) rfl rfl hor5
            have hdf := (hd3.below hb5).grown hg6 ((hd3.below hb5).row_ne (own_below hr1d hb5) (by decide))
            have hbf : Below w.heap.size w w6 := (hb2d.trans (hb5.mono hb2d.size)).grown hg6 (Nat.le_trans hb2d.size hb5.size) (own_base (own_below hr1d hb5))
            go_wp2
            exact ⟨⟨k + 1, _, v2, it2, ch2, by omega, by simp, fin, hdf, hbf, Nat.le_trans hD2 (Nat.le_trans hb5.size hg6.size), HR2⟩, by simp [intOf]; omega⟩
        · have t1 : (x.op == 1) = false := by simp [h1]
          by_cases h2 : x.op = 2
          · have t2 : (x.op == 2) = true := by simp [h2]
            have hpart : partsOf x = x.texts.map bl := by unfold partsOf; rw [if_neg h0, if_neg h1]
            have HP := Lib.hid hpart
            have H0 := Lib.hid h2
            have hF2 := hF8.2.1
            have HF3 := Lib.hid hF8.2.2
            clear hpart h2 h1 h0 hF8
            have hrA2 := Kd.reads_of_C (enc := Value.string) (d := ByteArray.empty) (h1 := fun _ => rfl) hcA
            obtain ⟨WA, hWA⟩ : ∃ WA, wr.alloc (.cells #[.int .i64 x.op, .string x.text, .slice B x.texts.length cc] 62) = WA := ⟨_, rfl⟩
            have hown0 := own_lit_of (enc := Value.string) WA WA.heap.size 9 [] (Nat.le_refl _) (by simp)
            have hal2 : Below WA.heap.size WA (WA.alloc (.cells #[] 9)) := (Below.refl _ _).alloc (Nat.le_refl _) _
            rw [hWA] at hbA hdA hrA huA hcA hDA hsA hrA2
            have hrA3 := hrA2.below hal2
            have hsz : WA.heap.size = wr.heap.size + 1 := by rw [← hWA]; simp
            have hHB : Below WA.heap.size WA WA := Below.refl _ _
            rw [hsz] at hown0 hal2
            rw [← hWA] at hrA3 hown0 hal2
            have HWA := Lib.hid hWA
            have HSZ := Lib.hid hsz
            clear hWA hsz hHB
            go_wp2_with (at_builtin; refine print_append_row_of Value.string ByteArray.empty _ rfl (.tmp 39) (.tmp 41) 22 9 (.string ⟨#[]⟩) 16 rfl Tryd.underlying22 info9 rfl (by omega) (fun _ => rfl) _ [] x.texts B x.texts.length cc rfl rfl hown0 hrA3 hal2 (by simp) (by simp; omega) ?_; intro v3 w3 ho3 hb3 hg3 _)
            rw [List.nil_append] at ho3
            obtain ⟨A3, c3, rfl, hcap3, hr3⟩ := own_reads_of_le (d := ByteArray.empty) ho3
            rw [HWA.out, ← HSZ.out] at hb3
            have hb3' := hb3
            refine (dreplace_any w.heap.size D v it ch A3 c3 x.texts w3 bm a (hdA.below hb3) (Nat.le_trans hDA hb3.size) hBD hr3 (by omega) HF3.out (um_below huA hb3)).mono ?_
            rintro e w2 ⟨E, err, vs, v2, it2, ch2, rfl, hE, hL, hor, hd2, hf2'⟩
            have hf2 : Fr WA w2 D v := Fr.trans hb3' hf2'
            rw [← HP.out] at hL
            have HST := Lib.hid (turn_istep hL (by rw [H0.out]; simp) (by rw [H0.out]; simp) hor)
            have htold : told x := by unfold told; rw [H0.out]; decide
            have HR2 := Lib.hid (IRun.step HR.out HX.out htold HST.out)
            have hrows2 := hrA.fr hdA hf2 (by decide)
            have hb2 : Below w.heap.size w w2 := hf2.base hbA hdA hBD
            have hD2 : D + 3 ≤ w2.heap.size := Nat.le_trans hDA hf2.size
            have hit2 : it2.length ≤ 4294967296 := Nat.le_trans (Nat.le_trans (run_room istep_len HR2.out) (room_le (by omega))) HROOM.out
            clear htold HST hL hor hf2 hrA hdA hbA huA hcA hDA hsA HR hitl
            have hd3 : Dsv w2.drew w.heap.size D v2 it2 ch2 := ⟨hd2.cellP, hd2.cellC, hd2.cellD, hd2.own⟩
            obtain ⟨cs, hr1, hr3⟩ := hrows2
            have HR3 := Lib.hid hr3
            have hr1d : w2.drew.ownsRow w.heap.size 45 3 u7 R.length cs := hr1.drew
            have hb2d : Below w.heap.size w w2.drew := below_drew1 hb2
            have hroom2 : (R.length + 1) * 56 ≤ 140737488355328 := by omega
            clear hr3
            rcases hE with ⟨rfl, rfl⟩ | ⟨p, rfl, rfl⟩
            · go_wp2_with fail
              go_region_law (first
                | ((with_reducible refine step_append_cells w.heap.size ?hw (.tmp 44) (.tmp 50) 36 45 (.agg #[.bool false, .slice none 0 0, .slice none 0 0]) 3 56 ?ho Tryd.underlying36 info45 ?hz ?h1 ?h2 u7 R.length cs [.bool false, .slice A5 it2.length c5, .slice none 0 0] ?hs ?hx ?hy (oc45 _ _ _ _) (own_below hr1d hb5) (Below.refl _ _) (Nat.le_trans hb2d.size hb5.size) hroom2 ?_); (case hw => rfl); (case ho => rfl); (case hz => rfl); (case h1 => omega); (case h2 => omega); (case hs => rfl); (case hx => rfl); (case hy => rfl); intro v1 w6 hown6 hb6 hg6 hat6)
                | (go_simp; go_at_call 38; refine (zznow_any w.heap.size D v2 it2 ch2 _ hd3 hit2).mono ?_; rintro e w5 ⟨r, rfl, hb5, hor5⟩; obtain ⟨A5, c5, rfl⟩ := own_slice hor5))
              have fin := RowsAt.snoc (own_below hr1d hb5) ⟨HR3.out.1, fun i p hp => by obtain ⟨v, b, e1, e2, e3⟩ := HR3.out.2 i p hp; exact ⟨v, b, e1, e2, own_below (own_drew e3) hb5⟩⟩ (by decide) hg6 hown6 rfl (by omega) rfl rfl hor5
              have hdf := (hd3.below hb5).grown hg6 ((hd3.below hb5).row_ne (own_below hr1d hb5) (by decide))
              have hbf : Below w.heap.size w w6 := (hb2d.trans (hb5.mono hb2d.size)).grown hg6 (Nat.le_trans hb2d.size hb5.size) (own_base (own_below hr1d hb5))
              go_wp2
              exact ⟨⟨k + 1, _, v2, it2, ch2, by omega, by simp, fin, hdf, hbf, Nat.le_trans hD2 (Nat.le_trans hb5.size hg6.size), HR2⟩, by simp [intOf]; omega⟩
            · go_wp2_with fail
              go_region_law (first
                | ((with_reducible refine step_append_cells w.heap.size ?hw (.tmp 44) (.tmp 50) 36 45 (.agg #[.bool false, .slice none 0 0, .slice none 0 0]) 3 56 ?ho Tryd.underlying36 info45 ?hz ?h1 ?h2 u7 R.length cs [.bool true, .slice A5 it2.length c5, .slice none 0 0] ?hs ?hx ?hy (oc45 _ _ _ _) (own_below hr1d hb5) (Below.refl _ _) (Nat.le_trans hb2d.size hb5.size) hroom2 ?_); (case hw => rfl); (case ho => rfl); (case hz => rfl); (case h1 => omega); (case h2 => omega); (case hs => rfl); (case hx => rfl); (case hy => rfl); intro v1 w6 hown6 hb6 hg6 hat6)
                | (go_simp; go_at_call 38; refine (zznow_any w.heap.size D v2 it2 ch2 _ hd3 hit2).mono ?_; rintro e w5 ⟨r, rfl, hb5, hor5⟩; obtain ⟨A5, c5, rfl⟩ := own_slice hor5))
              have fin := RowsAt.snoc (own_below hr1d hb5) ⟨HR3.out.1, fun i p hp => by obtain ⟨v, b, e1, e2, e3⟩ := HR3.out.2 i p hp; exact ⟨v, b, e1, e2, own_below (own_drew e3) hb5⟩⟩ (by decide) hg6 hown6 rfl (by omega) rfl rfl hor5
              have hdf := (hd3.below hb5).grown hg6 ((hd3.below hb5).row_ne (own_below hr1d hb5) (by decide))
              have hbf : Below w.heap.size w w6 := (hb2d.trans (hb5.mono hb2d.size)).grown hg6 (Nat.le_trans hb2d.size hb5.size) (own_base (own_below hr1d hb5))
              go_wp2
              exact ⟨⟨k + 1, _, v2, it2, ch2, by omega, by simp, fin, hdf, hbf, Nat.le_trans hD2 (Nat.le_trans hb5.size hg6.size), HR2⟩, by simp [intOf]; omega⟩
          · have t2 : (x.op == 2) = false := by simp [h2]
            have hn : ¬ told x := by unfold told; omega
            have HR2 := Lib.hid (IRun.skip HR.out HX.out hn)
            clear hn h2 h1 h0 HR
            go_wp2
            exact ⟨⟨k + 1, R, v, it, ch, by omega, by simp, hrA, hdA, hbA, hDA, HR2⟩, by simp [intOf]; omega⟩
    · obtain rfl : k = l.length := by omega
      have p1 : decide ((l.length : Int) < (l.length : Int)) = false := by simp
      go_wp2
      go_ret
      exact ⟨_, R, it, ch, rfl, hrows, HR.out, hb⟩
end Go.Proofs.YtjkmidohcidkiaaDoor.Li
