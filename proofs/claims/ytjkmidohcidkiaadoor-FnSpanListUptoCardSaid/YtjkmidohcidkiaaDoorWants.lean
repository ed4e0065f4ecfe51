/- The walk of wants29: what a list of durations is to be behind each step that is told. -/
import Derived.Test.YtjkmidohcidkiaaDoorSList
namespace Go.Proofs.YtjkmidohcidkiaaDoor.Li
open Go.RowKit Go.Proofs.YtjkmidohcidkiaaDoorW.PrintWords Go.Proofs.YtjkmidohcidkiaaDoor.Sp Go.Proofs.YtjkmidohcidkiaaDoor.Fmt Go.Proofs.YtjkmidohcidkiaaDoor.Zz

theorem info71 : (Tryd.prog.info? 71).map (fun i => (i.zero, i.size, i.bytes)) = some (some (.agg #[.bool false, .slice none 0 0]), 2, 32) := by kernel_rfl
theorem oc71 (b : Bool) (A : Option Addr) (n c : Nat) : ∀ u ∈ [Value.bool b, .slice A n c], u.oneCell' = true := by
  intro u hu
  simp at hu
  rcases hu with rfl | rfl <;> rfl
theorem Pairs.below {W W' : World} {sz : Nat} {R : List (Bool × List Int)} {cs : List Value} (h : Pairs W sz R cs) (hb : Below W.heap.size W W') : Pairs W' sz R cs :=
  ⟨h.1, fun i p hp => by obtain ⟨v, b, e1, e2, e3⟩ := h.2 i p hp; exact ⟨v, b, e1, e2, own_below e3 hb⟩⟩
theorem reads_nil : ∀ W : World, ReadsOf i64 0 W none 0 [] := fun _ => ⟨rfl, Nat.zero_le _, fun h => absurd h (by omega)⟩

/-- What wants29 gives: the rows behind the first k steps. -/
def WantsEnd (df : List Int) (l : List StepV) (w : World) (e : Ending) (w' : World) : Prop :=
  ∃ (v : Value) (R : List (Bool × List Int)) (k : Nat) (it : List Int) (st : Bool), e = .returned v ∧ RowsAt w' w.heap.size 71 2 v R ∧ k ≤ l.length ∧ IRun WStep df l k it st R ∧ Below w.heap.size w w'

set_option maxRecDepth 100000 in
set_option maxHeartbeats 2000000 in
theorem wants_any (A : Option Addr) (cap : Nat) (df : List Int) (A2 : Option Addr) (cap2 : Nat) (l : List StepV) (C : Nat) (w : World) (hr : ReadsOf i64 0 w A df.length df) (hv : StepsAt w A2 l) (hcap : l.length ≤ cap2)
    (hn : l.length ≤ 2147483647) (hroom : room df l l.length ≤ 4294967296) (hfit : ∀ x ∈ l, Fit8 x) (hC : w.cell? ⟨C, 0, none⟩ = some (.func (.func 7) #[] #[])) :
    Calls Tryd.prog 14 #[.slice A df.length cap, .slice A2 l.length cap2, .func (.func 30) #[] #[.pointer (some ⟨C, 0, none⟩)], .func (.func 7) #[] #[]] w (WantsEnd df l w) := by
  have hdf : df.length ≤ 4294967296 := by unfold room at hroom; omega
  have HV := Lib.hid hv
  have HFIT := Lib.hid hfit
  have HROOM := Lib.hid hroom
  have HC := Lib.hid hC
  have hal0 : Below w.heap.size w (w.alloc (.cells #[] 2)) := (Below.refl _ _).alloc (Nat.le_refl _) _
  have hown0 := own_lit_of (enc := i64) w w.heap.size 2 [] (Nat.le_refl _) (by simp)
  have hr0 := hr.below hal0
  clear hv hfit hroom hC
  go_enter Tryd.func14, Tryd.ntmps14
  go_wp2_with (at_builtin; refine print_append_row_of i64 0 w.heap.size rfl (.tmp 16) (.tmp 17) 33 2 (.int .i64 0) 8 rfl Tryd.underlying33 info2 rfl (by omega) (fun _ => rfl) (.slice (some ⟨w.heap.size, 0, none⟩) 0 0) [] df A df.length cap rfl rfl hown0 hr0 hal0 (by simp) (by simp; omega) ?_; intro v0 w0 ho0 hb0 hg0 _)
  rw [List.nil_append] at ho0
  clear hal0 hown0 hr0
  go_loopw [9, 10, 11, 21] (fun itv sv ov iv wr => ∃ (k : Nat) (R : List (Bool × List Int)) (it : List Int) (st : Bool), k ≤ l.length ∧ iv = .int .i64 k ∧ sv = .bool st ∧ RowsAt wr w.heap.size 71 2 ov R ∧ wr.ownsRow w.heap.size 2 1 itv it.length (encs i64 it) ∧ Below w.heap.size w wr ∧ Hid (IRun WStep df l k it st R)) (fun _ _ _ iv _ => l.length - (intOf iv).toNat)
  case atStart => exact ⟨0, [], df, false, Nat.zero_le _, rfl, rfl, RowsAt.nil _ _ _ _, ho0, hb0, .nil⟩
  case round =>
    clear ho0 hb0 hg0
    obtain ⟨k, R, it, st, hk, rfl, rfl, hrows, hito, hb, HR⟩ := hrel
    by_cases hlt : k < l.length
    · have p1 : decide ((k : Int) < (l.length : Int)) = true := by simp; omega
      obtain ⟨x, hx⟩ : ∃ x, l[k] = x := ⟨_, rfl⟩
      have hx' : l[k]? = some x := by rw [List.getElem?_eq_getElem hlt, hx]
      obtain ⟨ad, xv, rfl, c0, c1, c2, hst⟩ := (HV.out.below hb) k x hx'
      obtain ⟨B, cc, rfl, hc1, hc2⟩ := hst
      have hF8 := HFIT.out x (List.mem_of_getElem? hx')
      have hitl : it.length ≤ 4294967296 := Nat.le_trans (Nat.le_trans (run_room wstep_len HR.out) (room_le hk)) HROOM.out
      have hrl : R.length ≤ l.length := by rw [run_len HR.out]; exact Nat.le_trans (cnt_le _ _) hk
      obtain ⟨Ait, cit, rfl⟩ := own_slice hito
      obtain ⟨cs, hr1, hr3⟩ := hrows
      obtain ⟨o62, ho62⟩ : ∃ o, Obj.cells #[.int .i64 x.op, .string x.text, .slice B x.texts.length cc] 62 = o := ⟨_, rfl⟩
      have hal : Below wr.heap.size wr (wr.alloc o62) := (Below.refl _ _).alloc (Nat.le_refl _) _
      have hbA := hb.trans (hal.mono hb.size)
      have hoA := own_below hr1 hal
      have hpA := hr3.below hal
      have hiA := own_below hito hal
      have hcA := Kd.C_below hc2 hal
      have hCA := pw_cell_below hbA HC.out
      have hsA : w.heap.size ≤ (wr.alloc o62).heap.size := hbA.size
      have hqA : (wr.alloc o62).cell? ⟨wr.heap.size, 0, none⟩ = some (.int .i64 x.op) := by rw [← ho62, blk_cell (heap_alloc_new wr _)]; rfl
      rw [← ho62] at hbA hoA hpA hiA hcA hCA hsA hqA
      have HX := Lib.hid hx'
      have hts := hF8.1
      clear hal ho62 hx' hx hr1 hr3 hito hb hc2
      by_cases h0 : x.op = 0
      · have t0 : (x.op == 0) = true := by simp [h0]
        have t2 : (x.op == 2) = false := by simp [h0]
        have hpart : partsOf x = commas [] (bl x.text) := by unfold partsOf; rw [if_pos h0]
        have HP := Lib.hid hpart
        have H0 := Lib.hid h0
        clear hpart h0
        go_wp2_with fail
        refine (cut_any x.text C _ hts hCA).mono ?_
        rintro e w2 ⟨nv, kk, rfl, hb2, hE⟩
        rw [← HP.out] at hE
        have htold : told x := by unfold told; rw [H0.out]; decide
        have hb3 : Below w.heap.size w w2 := hbA.trans (hb2.mono hsA)
        have hs2 : w.heap.size ≤ w2.heap.size := hb3.size
        have ho2 := own_below hoA hb2
        have hp2 := hpA.below hb2
        have hi2 := own_below hiA hb2
        have hq2 := pw_cell_below hb2 hqA
        have hk1 : k + 1 ≤ l.length := hlt
        clear hbA hoA hpA hiA hCA hqA hb2
        rcases hE with ⟨vs, hev, rfl, hnow⟩ | ⟨rfl | rfl, hev, rfl⟩
        · obtain ⟨An, cn, rfl⟩ := own_slice hnow
          have hvl : vs.length ≤ 4294967296 := by
            have h1 := (eachR_fits _ _ hev).1
            have h2 := parts_cost x
            have h3 := room_step (df := df) HX.out
            have h4 := room_le (df := df) hk1
            have h5 := HROOM.out
            omega
          have HEV := Lib.hid hev
          clear hev
          cases st
          · have HR2 := Lib.hid (IRun.step HR.out HX.out htold (.inl ⟨vs, HEV.out, rfl, rfl, rfl⟩ : WStep x it false false (into x it false vs) (false || decide (x.op = 0))))
            have hinto : into x it false vs = ([] : List Int) ++ vs := by unfold into; rw [H0.out]; simp
            have hset : (false || decide (x.op = 0)) = true := by rw [H0.out]; simp
            rw [hinto, hset] at HR2
            have hal5 : Below w2.heap.size w2 (w2.alloc (.cells #[] 2)) := (Below.refl _ _).alloc (Nat.le_refl _) _
            have hown5 := own_lit_of (enc := i64) w2 w2.heap.size 2 [] (Nat.le_refl _) (by simp)
            have hrI : ReadsOf i64 0 (w2.alloc (.cells #[] 2)) none 0 ([] : List Int) := reads_nil _
            have hroom2 : (R.length + 1) * 32 ≤ 140737488355328 := by omega
            clear htold HEV hinto hset
            go_wp2_with (first
              | (at_builtin; refine print_append_row_of i64 0 w2.heap.size rfl (.tmp 72) (.tmp 73) 33 2 (.int .i64 0) 8 rfl Tryd.underlying33 info2 rfl (by omega) (fun _ => rfl) (.slice (some ⟨w2.heap.size, 0, none⟩) 0 0) [] ([] : List Int) none 0 0 rfl rfl hown5 hrI hal5 (by simp) (by first | omega | (simp; done) | (simp; omega)) ?_; intro v3 w3 ho3 hb5 hg3 _; rw [List.nil_append] at ho3; have hnr := (own_reads_of' (d := 0) hnow).below hb5)
              | (at_builtin; refine print_append_row_of i64 0 w2.heap.size rfl (.tmp 74) (.tmp 75) 33 2 (.int .i64 0) 8 rfl Tryd.underlying33 info2 rfl (by omega) (fun _ => rfl) v3 ([] : List Int) vs An vs.length cn rfl rfl ho3 hnr hb5 hb5.size (by first | omega | (simp; done) | (simp; omega)) ?_; intro v4 w4 ho4 hb6 hg4 _; obtain ⟨A4, c4, rfl⟩ := own_slice ho4; have ho4b : w4.ownsRow w2.heap.size 2 1 (.slice A4 (vs.length) c4) (([] : List Int) ++ vs).length (encs i64 (([] : List Int) ++ vs)) := (by rw [show (([] : List Int) ++ vs).length = vs.length from (by simp)] at ho4; rw [show (([] : List Int) ++ vs).length = vs.length from (by simp)]; exact ho4); have hq4 := pw_cell_below hb6 hq2; have ho24 := own_below ho2 hb6; have hs4 := Nat.le_trans hs2 hb6.size; have hp24 := hp2.below hb6)
              | (at_builtin; refine print_append_cells w.heap.size rfl (.tmp 83) (.tmp 88) 40 71 (.agg #[.bool false, .slice none 0 0]) 2 32 rfl Tryd.underlying40 info71 rfl (by omega) (by omega) _ R.length cs [.bool false, .slice A4 (vs.length) c4] rfl rfl rfl (oc71 _ _ _ _) ho24 (Below.refl _ _) hs4 hroom2 ?_; intro v6 w6 ho6 hb7 hg6 _))
            have fin := RowsAt.snoc ho24 hp24 (by decide) hg6 ho6 rfl (by omega) rfl rfl ho4b
            have ho4' := own_weaken ho4b hs2
            exact ⟨⟨k + 1, _, ([] : List Int) ++ vs, true, hk1, by simp, by simp, fin, own_other ho4' hg6 (own_type_ne ho4' ho24 (by decide)), (hb3.trans (hb6.mono hs2)).grown hg6 hs4 (own_base ho24), HR2⟩, by simp [intOf]; omega⟩
          · have HR2 := Lib.hid (IRun.step HR.out HX.out htold (.inl ⟨vs, HEV.out, rfl, rfl, rfl⟩ : WStep x it true false (into x it true vs) (true || decide (x.op = 0))))
            have hinto : into x it true vs = it ++ vs := by unfold into; rw [H0.out]; simp
            have hset : (true || decide (x.op = 0)) = true := by rw [H0.out]; simp
            rw [hinto, hset] at HR2
            have hal5 : Below w2.heap.size w2 (w2.alloc (.cells #[] 2)) := (Below.refl _ _).alloc (Nat.le_refl _) _
            have hown5 := own_lit_of (enc := i64) w2 w2.heap.size 2 [] (Nat.le_refl _) (by simp)
            have hrI : ReadsOf i64 0 (w2.alloc (.cells #[] 2)) Ait it.length it := (own_reads_of' (d := 0) hi2).below hal5
            have hroom2 : (R.length + 1) * 32 ≤ 140737488355328 := by omega
            clear htold HEV hinto hset
            go_wp2_with (first
              | (at_builtin; refine print_append_row_of i64 0 w2.heap.size rfl (.tmp 72) (.tmp 73) 33 2 (.int .i64 0) 8 rfl Tryd.underlying33 info2 rfl (by omega) (fun _ => rfl) (.slice (some ⟨w2.heap.size, 0, none⟩) 0 0) [] it Ait it.length cit rfl rfl hown5 hrI hal5 (by simp) (by first | omega | (simp; done) | (simp; omega)) ?_; intro v3 w3 ho3 hb5 hg3 _; rw [List.nil_append] at ho3; have hnr := (own_reads_of' (d := 0) hnow).below hb5)
              | (at_builtin; refine print_append_row_of i64 0 w2.heap.size rfl (.tmp 74) (.tmp 75) 33 2 (.int .i64 0) 8 rfl Tryd.underlying33 info2 rfl (by omega) (fun _ => rfl) v3 it vs An vs.length cn rfl rfl ho3 hnr hb5 hb5.size (by first | omega | (simp; done) | (simp; omega)) ?_; intro v4 w4 ho4 hb6 hg4 _; obtain ⟨A4, c4, rfl⟩ := own_slice ho4; have ho4b : w4.ownsRow w2.heap.size 2 1 (.slice A4 (it.length + vs.length) c4) (it ++ vs).length (encs i64 (it ++ vs)) := (by rw [show (it ++ vs).length = it.length + vs.length from (by simp)] at ho4; rw [show (it ++ vs).length = it.length + vs.length from (by simp)]; exact ho4); have hq4 := pw_cell_below hb6 hq2; have ho24 := own_below ho2 hb6; have hs4 := Nat.le_trans hs2 hb6.size; have hp24 := hp2.below hb6)
              | (at_builtin; refine print_append_cells w.heap.size rfl (.tmp 83) (.tmp 88) 40 71 (.agg #[.bool false, .slice none 0 0]) 2 32 rfl Tryd.underlying40 info71 rfl (by omega) (by omega) _ R.length cs [.bool false, .slice A4 (it.length + vs.length) c4] rfl rfl rfl (oc71 _ _ _ _) ho24 (Below.refl _ _) hs4 hroom2 ?_; intro v6 w6 ho6 hb7 hg6 _))
            have fin := RowsAt.snoc ho24 hp24 (by decide) hg6 ho6 rfl (by omega) rfl rfl ho4b
            have ho4' := own_weaken ho4b hs2
            exact ⟨⟨k + 1, _, it ++ vs, true, hk1, by simp, by simp, fin, own_other ho4' hg6 (own_type_ne ho4' ho24 (by decide)), (hb3.trans (hb6.mono hs2)).grown hg6 hs4 (own_base ho24), HR2⟩, by simp [intOf]; omega⟩
        · have HR2 := HR
          clear hev
          go_wp2
          go_ret
          exact ⟨_, R, k, it, st, rfl, ⟨cs, ho2, hp2⟩, hk, HR2.out, hb3⟩
        · have HR2 := Lib.hid (IRun.step HR.out HX.out htold (.inr ⟨hev, rfl, rfl, rfl⟩ : WStep x it st true it st))
          have hroom2 : (R.length + 1) * 32 ≤ 140737488355328 := by omega
          clear hev htold
          go_wp2_with (at_builtin; refine print_append_cells w.heap.size rfl (.tmp 83) (.tmp 88) 40 71 (.agg #[.bool false, .slice none 0 0]) 2 32 rfl Tryd.underlying40 info71 rfl (by omega) (by omega) _ R.length cs [.bool true, .slice Ait it.length cit] rfl rfl rfl (oc71 _ _ _ _) ho2 (Below.refl _ _) hs2 hroom2 ?_; intro v6 w6 ho6 hb6 hg6 _)
          have fin := RowsAt.snoc ho2 hp2 (by decide) hg6 ho6 rfl (by omega) rfl rfl hi2
          exact ⟨⟨k + 1, _, it, st, hk1, by simp, rfl, fin, own_other hi2 hg6 (own_type_ne hi2 ho2 (by decide)), hb3.grown hg6 hs2 (own_base ho2), HR2⟩, by simp [intOf]; omega⟩
      · have t0 : (x.op == 0) = false := by simp [h0]
        by_cases h1 : x.op = 1
        · have t1 : (x.op == 1) = true := by simp [h1]
          have t2 : (x.op == 2) = false := by simp [h1]
          have hpart : partsOf x = [x.text].map bl := by unfold partsOf; rw [if_neg h0, if_pos h1]; rfl
          have HP := Lib.hid hpart
          have H0 := Lib.hid h1
          clear hpart h1 h0
          obtain ⟨WA, hWA⟩ : ∃ WA, wr.alloc (.cells #[.int .i64 x.op, .string x.text, .slice B x.texts.length cc] 62) = WA := ⟨_, rfl⟩
          have hsz : WA.heap.size = wr.heap.size + 1 := by rw [← hWA]; simp
          have hal2 : Below WA.heap.size WA (WA.alloc (.cells #[.string x.text] 9)) := (Below.refl _ _).alloc (Nat.le_refl _) _
          have hrd : ReadsOf Value.string ByteArray.empty (WA.alloc (.cells #[.string x.text] 9)) (some ⟨wr.heap.size + 1, 0, none⟩) [x.text].length [x.text] := by
            rw [← hsz]
            exact own_reads_of' (own_lit_of (enc := Value.string) WA 0 9 [x.text] (Nat.zero_le _) (by simp))
          rw [hWA] at hbA hoA hpA hiA hcA hCA hsA hqA
          have HWA := Lib.hid hWA
          rw [← hWA] at hrd
          clear hWA
          go_wp2_with fail
          refine (each_any _ 1 [x.text] _ hrd (by simp) (by simpa using hts)).mono ?_
          rintro e w2 ⟨nv, kk, rfl, hb2', hE⟩
          rw [HWA.out] at hb2'
          have hb2 : Below WA.heap.size WA w2 := hal2.trans (hb2'.mono hal2.size)
          rw [← HP.out] at hE
          have htold : told x := by unfold told; rw [H0.out]; decide
          clear hal2 hrd hb2'
          have hb3 : Below w.heap.size w w2 := hbA.trans (hb2.mono hsA)
          have hs2 : w.heap.size ≤ w2.heap.size := hb3.size
          have ho2 := own_below hoA hb2
          have hp2 := hpA.below hb2
          have hi2 := own_below hiA hb2
          have hq2 := pw_cell_below hb2 hqA
          have hk1 : k + 1 ≤ l.length := hlt
          clear hbA hoA hpA hiA hCA hqA hb2
          rcases hE with ⟨vs, hev, rfl, hnow⟩ | ⟨rfl | rfl, hev, rfl⟩
          · obtain ⟨An, cn, rfl⟩ := own_slice hnow
            have hvl : vs.length ≤ 4294967296 := by
              have h1 := (eachR_fits _ _ hev).1
              have h2 := parts_cost x
              have h3 := room_step (df := df) HX.out
              have h4 := room_le (df := df) hk1
              have h5 := HROOM.out
              omega
            have HEV := Lib.hid hev
            clear hev
            cases st
            · have HR2 := Lib.hid (IRun.step HR.out HX.out htold (.inl ⟨vs, HEV.out, rfl, rfl, rfl⟩ : WStep x it false false (into x it false vs) (false || decide (x.op = 0))))
              have hinto : into x it false vs = it ++ vs := by unfold into; rw [H0.out]; simp
              have hset : (false || decide (x.op = 0)) = false := by rw [H0.out]; simp
              rw [hinto, hset] at HR2
              have hal5 : Below w2.heap.size w2 (w2.alloc (.cells #[] 2)) := (Below.refl _ _).alloc (Nat.le_refl _) _
              have hown5 := own_lit_of (enc := i64) w2 w2.heap.size 2 [] (Nat.le_refl _) (by simp)
              have hrI : ReadsOf i64 0 (w2.alloc (.cells #[] 2)) Ait it.length it := (own_reads_of' (d := 0) hi2).below hal5
              have hroom2 : (R.length + 1) * 32 ≤ 140737488355328 := by omega
              clear htold HEV hinto hset
              go_wp2_with (first
                | (at_builtin; refine print_append_row_of i64 0 w2.heap.size rfl (.tmp 72) (.tmp 73) 33 2 (.int .i64 0) 8 rfl Tryd.underlying33 info2 rfl (by omega) (fun _ => rfl) (.slice (some ⟨w2.heap.size, 0, none⟩) 0 0) [] it Ait it.length cit rfl rfl hown5 hrI hal5 (by simp) (by first | omega | (simp; done) | (simp; omega)) ?_; intro v3 w3 ho3 hb5 hg3 _; rw [List.nil_append] at ho3; have hnr := (own_reads_of' (d := 0) hnow).below hb5)
                | (at_builtin; refine print_append_row_of i64 0 w2.heap.size rfl (.tmp 74) (.tmp 75) 33 2 (.int .i64 0) 8 rfl Tryd.underlying33 info2 rfl (by omega) (fun _ => rfl) v3 it vs An vs.length cn rfl rfl ho3 hnr hb5 hb5.size (by first | omega | (simp; done) | (simp; omega)) ?_; intro v4 w4 ho4 hb6 hg4 _; obtain ⟨A4, c4, rfl⟩ := own_slice ho4; have ho4b : w4.ownsRow w2.heap.size 2 1 (.slice A4 (it.length + vs.length) c4) (it ++ vs).length (encs i64 (it ++ vs)) := (by rw [show (it ++ vs).length = it.length + vs.length from (by simp)] at ho4; rw [show (it ++ vs).length = it.length + vs.length from (by simp)]; exact ho4); have hq4 := pw_cell_below hb6 hq2; have ho24 := own_below ho2 hb6; have hs4 := Nat.le_trans hs2 hb6.size; have hp24 := hp2.below hb6)
                | (at_builtin; refine print_append_cells w.heap.size rfl (.tmp 83) (.tmp 88) 40 71 (.agg #[.bool false, .slice none 0 0]) 2 32 rfl Tryd.underlying40 info71 rfl (by omega) (by omega) _ R.length cs [.bool false, .slice A4 (it.length + vs.length) c4] rfl rfl rfl (oc71 _ _ _ _) ho24 (Below.refl _ _) hs4 hroom2 ?_; intro v6 w6 ho6 hb7 hg6 _))
              have fin := RowsAt.snoc ho24 hp24 (by decide) hg6 ho6 rfl (by omega) rfl rfl ho4b
              have ho4' := own_weaken ho4b hs2
              exact ⟨⟨k + 1, _, it ++ vs, false, hk1, by simp, by simp, fin, own_other ho4' hg6 (own_type_ne ho4' ho24 (by decide)), (hb3.trans (hb6.mono hs2)).grown hg6 hs4 (own_base ho24), HR2⟩, by simp [intOf]; omega⟩
            · have HR2 := Lib.hid (IRun.step HR.out HX.out htold (.inl ⟨vs, HEV.out, rfl, rfl, rfl⟩ : WStep x it true false (into x it true vs) (true || decide (x.op = 0))))
              have hinto : into x it true vs = it ++ vs := by unfold into; rw [H0.out]; simp
              have hset : (true || decide (x.op = 0)) = true := by rw [H0.out]; simp
              rw [hinto, hset] at HR2
              have hal5 : Below w2.heap.size w2 (w2.alloc (.cells #[] 2)) := (Below.refl _ _).alloc (Nat.le_refl _) _
              have hown5 := own_lit_of (enc := i64) w2 w2.heap.size 2 [] (Nat.le_refl _) (by simp)
              have hrI : ReadsOf i64 0 (w2.alloc (.cells #[] 2)) Ait it.length it := (own_reads_of' (d := 0) hi2).below hal5
              have hroom2 : (R.length + 1) * 32 ≤ 140737488355328 := by omega
              clear htold HEV hinto hset
              go_wp2_with (first
                | (at_builtin; refine print_append_row_of i64 0 w2.heap.size rfl (.tmp 72) (.tmp 73) 33 2 (.int .i64 0) 8 rfl Tryd.underlying33 info2 rfl (by omega) (fun _ => rfl) (.slice (some ⟨w2.heap.size, 0, none⟩) 0 0) [] it Ait it.length cit rfl rfl hown5 hrI hal5 (by simp) (by first | omega | (simp; done) | (simp; omega)) ?_; intro v3 w3 ho3 hb5 hg3 _; rw [List.nil_append] at ho3; have hnr := (own_reads_of' (d := 0) hnow).below hb5)
                | (at_builtin; refine print_append_row_of i64 0 w2.heap.size rfl (.tmp 74) (.tmp 75) 33 2 (.int .i64 0) 8 rfl Tryd.underlying33 info2 rfl (by omega) (fun _ => rfl) v3 it vs An vs.length cn rfl rfl ho3 hnr hb5 hb5.size (by first | omega | (simp; done) | (simp; omega)) ?_; intro v4 w4 ho4 hb6 hg4 _; obtain ⟨A4, c4, rfl⟩ := own_slice ho4; have ho4b : w4.ownsRow w2.heap.size 2 1 (.slice A4 (it.length + vs.length) c4) (it ++ vs).length (encs i64 (it ++ vs)) := (by rw [show (it ++ vs).length = it.length + vs.length from (by simp)] at ho4; rw [show (it ++ vs).length = it.length + vs.length from (by simp)]; exact ho4); have hq4 := pw_cell_below hb6 hq2; have ho24 := own_below ho2 hb6; have hs4 := Nat.le_trans hs2 hb6.size; have hp24 := hp2.below hb6)
                | (at_builtin; refine print_append_cells w.heap.size rfl (.tmp 83) (.tmp 88) 40 71 (.agg #[.bool false, .slice none 0 0]) 2 32 rfl Tryd.underlying40 info71 rfl (by omega) (by omega) _ R.length cs [.bool false, .slice A4 (it.length + vs.length) c4] rfl rfl rfl (oc71 _ _ _ _) ho24 (Below.refl _ _) hs4 hroom2 ?_; intro v6 w6 ho6 hb7 hg6 _))
              have fin := RowsAt.snoc ho24 hp24 (by decide) hg6 ho6 rfl (by omega) rfl rfl ho4b
              have ho4' := own_weaken ho4b hs2
              exact ⟨⟨k + 1, _, it ++ vs, true, hk1, by simp, by simp, fin, own_other ho4' hg6 (own_type_ne ho4' ho24 (by decide)), (hb3.trans (hb6.mono hs2)).grown hg6 hs4 (own_base ho24), HR2⟩, by simp [intOf]; omega⟩
          · have HR2 := HR
            clear hev
            go_wp2
            go_ret
            exact ⟨_, R, k, it, st, rfl, ⟨cs, ho2, hp2⟩, hk, HR2.out, hb3⟩
          · have HR2 := Lib.hid (IRun.step HR.out HX.out htold (.inr ⟨hev, rfl, rfl, rfl⟩ : WStep x it st true it st))
            have hroom2 : (R.length + 1) * 32 ≤ 140737488355328 := by omega
            clear hev htold
            go_wp2_with (at_builtin; refine print_append_cells w.heap.size rfl (.tmp 83) (.tmp 88) 40 71 (.agg #[.bool false, .slice none 0 0]) 2 32 rfl Tryd.underlying40 info71 rfl (by omega) (by omega) _ R.length cs [.bool true, .slice Ait it.length cit] rfl rfl rfl (oc71 _ _ _ _) ho2 (Below.refl _ _) hs2 hroom2 ?_; intro v6 w6 ho6 hb6 hg6 _)
            have fin := RowsAt.snoc ho2 hp2 (by decide) hg6 ho6 rfl (by omega) rfl rfl hi2
            exact ⟨⟨k + 1, _, it, st, hk1, by simp, rfl, fin, own_other hi2 hg6 (own_type_ne hi2 ho2 (by decide)), hb3.grown hg6 hs2 (own_base ho2), HR2⟩, by simp [intOf]; omega⟩
        · have t1 : (x.op == 1) = false := by simp [h1]
          by_cases h2 : x.op = 2
          · have t2 : (x.op == 2) = true := by simp [h2]
            have hpart : partsOf x = x.texts.map bl := by unfold partsOf; rw [if_neg h0, if_neg h1]
            have HP := Lib.hid hpart
            have H0 := Lib.hid h2
            have hF2 := hF8.2.1
            have HF3 := Lib.hid hF8.2.2
            have hrd := Kd.reads_of_C (enc := Value.string) (d := ByteArray.empty) (h1 := fun _ => rfl) hcA
            clear hpart h2 h1 h0 hF8
            go_wp2_with fail
            refine (each_any B cc x.texts _ hrd (by omega) HF3.out).mono ?_
            rintro e w2 ⟨nv, kk, rfl, hb2, hE⟩
            rw [← HP.out] at hE
            have htold : told x := by unfold told; rw [H0.out]; decide
            clear hrd
            have hb3 : Below w.heap.size w w2 := hbA.trans (hb2.mono hsA)
            have hs2 : w.heap.size ≤ w2.heap.size := hb3.size
            have ho2 := own_below hoA hb2
            have hp2 := hpA.below hb2
            have hi2 := own_below hiA hb2
            have hq2 := pw_cell_below hb2 hqA
            have hk1 : k + 1 ≤ l.length := hlt
            clear hbA hoA hpA hiA hCA hqA hb2
            rcases hE with ⟨vs, hev, rfl, hnow⟩ | ⟨rfl | rfl, hev, rfl⟩
            · obtain ⟨An, cn, rfl⟩ := own_slice hnow
              have hvl : vs.length ≤ 4294967296 := by
                have h1 := (eachR_fits _ _ hev).1
                have h2 := parts_cost x
                have h3 := room_step (df := df) HX.out
                have h4 := room_le (df := df) hk1
                have h5 := HROOM.out
                omega
              have HEV := Lib.hid hev
              clear hev
              cases st
              · have HR2 := Lib.hid (IRun.step HR.out HX.out htold (.inl ⟨vs, HEV.out, rfl, rfl, rfl⟩ : WStep x it false false (into x it false vs) (false || decide (x.op = 0))))
                have hinto : into x it false vs = ([] : List Int) ++ vs := by unfold into; rw [H0.out]; simp
                have hset : (false || decide (x.op = 0)) = false := by rw [H0.out]; simp
                rw [hinto, hset] at HR2
                have hal5 : Below w2.heap.size w2 (w2.alloc (.cells #[] 2)) := (Below.refl _ _).alloc (Nat.le_refl _) _
                have hown5 := own_lit_of (enc := i64) w2 w2.heap.size 2 [] (Nat.le_refl _) (by simp)
                have hrI : ReadsOf i64 0 (w2.alloc (.cells #[] 2)) none 0 ([] : List Int) := reads_nil _
                have hroom2 : (R.length + 1) * 32 ≤ 140737488355328 := by omega
                clear htold HEV hinto hset
                go_wp2_with (first
                  | (at_builtin; refine print_append_row_of i64 0 w2.heap.size rfl (.tmp 72) (.tmp 73) 33 2 (.int .i64 0) 8 rfl Tryd.underlying33 info2 rfl (by omega) (fun _ => rfl) (.slice (some ⟨w2.heap.size, 0, none⟩) 0 0) [] ([] : List Int) none 0 0 rfl rfl hown5 hrI hal5 (by simp) (by first | omega | (simp; done) | (simp; omega)) ?_; intro v3 w3 ho3 hb5 hg3 _; rw [List.nil_append] at ho3; have hnr := (own_reads_of' (d := 0) hnow).below hb5)
                  | (at_builtin; refine print_append_row_of i64 0 w2.heap.size rfl (.tmp 74) (.tmp 75) 33 2 (.int .i64 0) 8 rfl Tryd.underlying33 info2 rfl (by omega) (fun _ => rfl) v3 ([] : List Int) vs An vs.length cn rfl rfl ho3 hnr hb5 hb5.size (by first | omega | (simp; done) | (simp; omega)) ?_; intro v4 w4 ho4 hb6 hg4 _; obtain ⟨A4, c4, rfl⟩ := own_slice ho4; have ho4b : w4.ownsRow w2.heap.size 2 1 (.slice A4 (vs.length) c4) (([] : List Int) ++ vs).length (encs i64 (([] : List Int) ++ vs)) := (by rw [show (([] : List Int) ++ vs).length = vs.length from (by simp)] at ho4; rw [show (([] : List Int) ++ vs).length = vs.length from (by simp)]; exact ho4); have hq4 := pw_cell_below hb6 hq2; have ho24 := own_below ho2 hb6; have hs4 := Nat.le_trans hs2 hb6.size; have hp24 := hp2.below hb6)
                  | (at_builtin; refine print_append_cells w.heap.size rfl (.tmp 83) (.tmp 88) 40 71 (.agg #[.bool false, .slice none 0 0]) 2 32 rfl Tryd.underlying40 info71 rfl (by omega) (by omega) _ R.length cs [.bool false, .slice A4 (vs.length) c4] rfl rfl rfl (oc71 _ _ _ _) ho24 (Below.refl _ _) hs4 hroom2 ?_; intro v6 w6 ho6 hb7 hg6 _))
                have fin := RowsAt.snoc ho24 hp24 (by decide) hg6 ho6 rfl (by omega) rfl rfl ho4b
                have ho4' := own_weaken ho4b hs2
                exact ⟨⟨k + 1, _, ([] : List Int) ++ vs, false, hk1, by simp, by simp, fin, own_other ho4' hg6 (own_type_ne ho4' ho24 (by decide)), (hb3.trans (hb6.mono hs2)).grown hg6 hs4 (own_base ho24), HR2⟩, by simp [intOf]; omega⟩
              · have HR2 := Lib.hid (IRun.step HR.out HX.out htold (.inl ⟨vs, HEV.out, rfl, rfl, rfl⟩ : WStep x it true false (into x it true vs) (true || decide (x.op = 0))))
                have hinto : into x it true vs = ([] : List Int) ++ vs := by unfold into; rw [H0.out]; simp
                have hset : (true || decide (x.op = 0)) = true := by rw [H0.out]; simp
                rw [hinto, hset] at HR2
                have hal5 : Below w2.heap.size w2 (w2.alloc (.cells #[] 2)) := (Below.refl _ _).alloc (Nat.le_refl _) _
                have hown5 := own_lit_of (enc := i64) w2 w2.heap.size 2 [] (Nat.le_refl _) (by simp)
                have hrI : ReadsOf i64 0 (w2.alloc (.cells #[] 2)) none 0 ([] : List Int) := reads_nil _
                have hroom2 : (R.length + 1) * 32 ≤ 140737488355328 := by omega
                clear htold HEV hinto hset
                go_wp2_with (first
                  | (at_builtin; refine print_append_row_of i64 0 w2.heap.size rfl (.tmp 72) (.tmp 73) 33 2 (.int .i64 0) 8 rfl Tryd.underlying33 info2 rfl (by omega) (fun _ => rfl) (.slice (some ⟨w2.heap.size, 0, none⟩) 0 0) [] ([] : List Int) none 0 0 rfl rfl hown5 hrI hal5 (by simp) (by first | omega | (simp; done) | (simp; omega)) ?_; intro v3 w3 ho3 hb5 hg3 _; rw [List.nil_append] at ho3; have hnr := (own_reads_of' (d := 0) hnow).below hb5)
                  | (at_builtin; refine print_append_row_of i64 0 w2.heap.size rfl (.tmp 74) (.tmp 75) 33 2 (.int .i64 0) 8 rfl Tryd.underlying33 info2 rfl (by omega) (fun _ => rfl) v3 ([] : List Int) vs An vs.length cn rfl rfl ho3 hnr hb5 hb5.size (by first | omega | (simp; done) | (simp; omega)) ?_; intro v4 w4 ho4 hb6 hg4 _; obtain ⟨A4, c4, rfl⟩ := own_slice ho4; have ho4b : w4.ownsRow w2.heap.size 2 1 (.slice A4 (vs.length) c4) (([] : List Int) ++ vs).length (encs i64 (([] : List Int) ++ vs)) := (by rw [show (([] : List Int) ++ vs).length = vs.length from (by simp)] at ho4; rw [show (([] : List Int) ++ vs).length = vs.length from (by simp)]; exact ho4); have hq4 := pw_cell_below hb6 hq2; have ho24 := own_below ho2 hb6; have hs4 := Nat.le_trans hs2 hb6.size; have hp24 := hp2.below hb6)
                  | (at_builtin; refine print_append_cells w.heap.size rfl (.tmp 83) (.tmp 88) 40 71 (.agg #[.bool false, .slice none 0 0]) 2 32 rfl Tryd.underlying40 info71 rfl (by omega) (by omega) _ R.length cs [.bool false, .slice A4 (vs.length) c4] rfl rfl rfl (oc71 _ _ _ _) ho24 (Below.refl _ _) hs4 hroom2 ?_; intro v6 w6 ho6 hb7 hg6 _))
                have fin := RowsAt.snoc ho24 hp24 (by decide) hg6 ho6 rfl (by omega) rfl rfl ho4b
                have ho4' := own_weaken ho4b hs2
                exact ⟨⟨k + 1, _, ([] : List Int) ++ vs, true, hk1, by simp, by simp, fin, own_other ho4' hg6 (own_type_ne ho4' ho24 (by decide)), (hb3.trans (hb6.mono hs2)).grown hg6 hs4 (own_base ho24), HR2⟩, by simp [intOf]; omega⟩
            · have HR2 := HR
              clear hev
              go_wp2
              go_ret
              exact ⟨_, R, k, it, st, rfl, ⟨cs, ho2, hp2⟩, hk, HR2.out, hb3⟩
            · have HR2 := Lib.hid (IRun.step HR.out HX.out htold (.inr ⟨hev, rfl, rfl, rfl⟩ : WStep x it st true it st))
              have hroom2 : (R.length + 1) * 32 ≤ 140737488355328 := by omega
              clear hev htold
              go_wp2_with (at_builtin; refine print_append_cells w.heap.size rfl (.tmp 83) (.tmp 88) 40 71 (.agg #[.bool false, .slice none 0 0]) 2 32 rfl Tryd.underlying40 info71 rfl (by omega) (by omega) _ R.length cs [.bool true, .slice Ait it.length cit] rfl rfl rfl (oc71 _ _ _ _) ho2 (Below.refl _ _) hs2 hroom2 ?_; intro v6 w6 ho6 hb6 hg6 _)
              have fin := RowsAt.snoc ho2 hp2 (by decide) hg6 ho6 rfl (by omega) rfl rfl hi2
              exact ⟨⟨k + 1, _, it, st, hk1, by simp, rfl, fin, own_other hi2 hg6 (own_type_ne hi2 ho2 (by decide)), hb3.grown hg6 hs2 (own_base ho2), HR2⟩, by simp [intOf]; omega⟩
          · have t2 : (x.op == 2) = false := by simp [h2]
            have hn : ¬ told x := by unfold told; omega
            have HR2 := Lib.hid (IRun.skip HR.out HX.out hn)
            clear hn h2 h1 h0 HR
            go_wp2
            exact ⟨⟨k + 1, R, it, st, by omega, by simp, rfl, ⟨cs, hoA, hpA⟩, hiA, hbA, HR2⟩, by simp [intOf]; omega⟩
    · obtain rfl : k = l.length := by omega
      have p1 : decide ((l.length : Int) < (l.length : Int)) = false := by simp
      go_wp2
      go_ret
      exact ⟨_, R, l.length, it, st, rfl, hrows, Nat.le_refl _, HR.out, hb⟩
end Go.Proofs.YtjkmidohcidkiaaDoor.Li
