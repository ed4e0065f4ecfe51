/- The steps that came in, and the walks of zzFits8, zzFits7 and told29 over them. -/
import Derived.Test.YtjkmidohcidkiaaDoorCall
import Derived.Test.YtjkmidohcidkiaaDoorRun
namespace Go.Proofs.YtjkmidohcidkiaaDoor.Li
open Go.RowKit Go.Proofs.YtjkmidohcidkiaaDoorW.PrintWords Go.Proofs.YtjkmidohcidkiaaDoor.Sp Go.Proofs.YtjkmidohcidkiaaDoor.Fmt Go.Proofs.YtjkmidohcidkiaaDoor.PFnSpans

/-- A step's value. -/
def StepAt (W : World) (x : StepV) (v : Value) : Prop := ∃ (B : Option Addr) (c : Nat), v = .slice B x.texts.length c ∧ x.texts.length ≤ c ∧ Kd.C Kd.string W B x.texts.length x.texts
/-- The steps, in memory. -/
def StepsAt (W : World) (A : Option Addr) (l : List StepV) : Prop :=
  ∀ (i : Nat) (x : StepV), l[i]? = some x → ∃ (ad : Addr) (v : Value), A = some ad ∧ W.cell? (ad.add (i * 3)) = some (.int .i64 x.op) ∧ W.cell? ⟨(ad.add (i * 3)).block, (ad.add (i * 3)).off + 1, none⟩ = some (.string x.text) ∧ W.cell? ⟨(ad.add (i * 3)).block, (ad.add (i * 3)).off + 2, none⟩ = some v ∧ StepAt W x v
theorem StepAt.below {W W' : World} {x : StepV} {v : Value} (h : StepAt W x v) (hb : Below W.heap.size W W') : StepAt W' x v := by
  obtain ⟨B, c, h1, h2, h3⟩ := h
  exact ⟨B, c, h1, h2, Kd.C_below h3 hb⟩
theorem StepsAt.below {W W' : World} {A : Option Addr} {l : List StepV} (h : StepsAt W A l) (hb : Below W.heap.size W W') : StepsAt W' A l := by
  intro i x hx
  obtain ⟨ad, v, h0, h1, h2, h3, h4⟩ := h i x hx
  exact ⟨ad, v, h0, pw_cell_below hb h1, pw_cell_below hb h2, pw_cell_below hb h3, h4.below hb⟩
def Fit8 (x : StepV) : Prop := x.text.size ≤ 2147483647 ∧ x.texts.length ≤ 2147483647 ∧ ∀ s ∈ x.texts, s.size ≤ 2147483647

set_option maxRecDepth 100000 in
theorem fits8_any (x : StepV) (v : Value) (w : World) (hv : StepAt w x v) : Calls Tryd.prog 23 #[.agg #[.int .i64 x.op, .string x.text, v]] w fun e w' => ∃ b, e = .returned (.bool b) ∧ Below w.heap.size w w' ∧ (b = true → Fit8 x) := by
  obtain ⟨B, c, rfl, hc, hr⟩ := hv
  obtain ⟨kf, b, hk, hb⟩ := Cl.fits_ev x.texts
  have HK := Lib.hid hk
  have HB := Lib.hid hb
  have HR := Lib.hid hr
  clear hk hb hr
  have hw1 : Below w.heap.size w (w.alloc (.cells #[.int .i64 x.op, .string x.text, .slice B x.texts.length c] 62)) := (Below.refl _ w).alloc (Nat.le_refl _) _
  by_cases hs : x.text.size ≤ 2147483647
  · have t6 : decide ((2147483647 : Int) < (x.text.size : Int)) = false := by simp; omega
    go_enter Tryd.func23, Tryd.ntmps23
    go_wp2_with fail
    refine (laws_zzFits2.calls kf B c x.texts b _ (Kd.C_below HR.out hw1) hc HK.out).mono ?_
    rintro e w1 ⟨rfl, ⟨n1, rfl⟩⟩
    cases b
    · go_wp2
      go_ret
      exact ⟨_, rfl, below_drewN hw1 _, fun h => by cases h⟩
    · have HB2 := Lib.hid (HB.out rfl)
      clear HB
      go_wp2
      go_ret
      exact ⟨_, rfl, below_drewN hw1 _, fun _ => ⟨hs, HB2.out⟩⟩
  · have t6 : decide ((2147483647 : Int) < (x.text.size : Int)) = true := by simp; omega
    go_enter Tryd.func23, Tryd.ntmps23
    go_wp2
    go_ret
    exact ⟨_, rfl, hw1, fun h => by cases h⟩

set_option maxRecDepth 100000 in
theorem fits7_any (A : Option Addr) (cap : Nat) (l : List StepV) (w : World) (hcap : l.length ≤ cap) (hv : StepsAt w A l) :
    Calls Tryd.prog 10 #[.slice A l.length cap] w fun e w' => ∃ b, e = .returned (.bool b) ∧ Below w.heap.size w w' ∧ (b = true → l.length ≤ 2147483647 ∧ ∀ x ∈ l, Fit8 x) := by
  have HV := Lib.hid hv
  clear hv
  by_cases hn : l.length ≤ 2147483647
  · have t6 : decide ((2147483647 : Int) < (l.length : Int)) = false := by simp; omega
    go_enter Tryd.func10, Tryd.ntmps10
    go_wp2_with fail
    go_loopw [10] (fun iv wr => ∃ k : Nat, k ≤ l.length ∧ iv = .int .i64 k ∧ Below w.heap.size w wr ∧ ∀ (i : Nat) (x : StepV), i < k → l[i]? = some x → Fit8 x) (fun iv _ => l.length - (intOf iv).toNat)
    case atStart => exact ⟨0, Nat.zero_le _, rfl, Below.refl _ _, fun i x hi => by omega⟩
    case round =>
      obtain ⟨k, hk, rfl, hb, hf⟩ := hrel
      have HF := Lib.hid hf
      clear hf
      by_cases hlt : k < l.length
      · obtain ⟨x, hx⟩ : ∃ x, l[k] = x := ⟨_, rfl⟩
        have hx' : l[k]? = some x := by rw [List.getElem?_eq_getElem hlt, hx]
        obtain ⟨ad, v, rfl, c0, c1, c2, hst⟩ := (HV.out.below hb) k x hx'
        have HX := Lib.hid hx'
        obtain ⟨B, c, rfl, hc1, hc2⟩ := hst
        have HST : Hid (StepAt wr x (.slice B x.texts.length c)) := ⟨B, c, rfl, hc1, hc2⟩
        clear hc1 hc2 hx hx'
        go_wp2_with fail
        refine (fits8_any x _ _ (HST.out.below ((Below.refl _ wr).alloc (Nat.le_refl _) _))).mono ?_
        rintro e w2 ⟨b, rfl, hb2, hfit⟩
        have hb3 : Below w.heap.size w w2 := (hb.alloc hb.size _).trans (hb2.mono (by have := hb.size; simp; omega))
        have HFit := Lib.hid hfit
        clear hfit
        cases b
        · go_wp2
          go_ret
          exact ⟨_, rfl, hb3, fun h => by cases h⟩
        · have HFit2 := Lib.hid (HFit.out rfl)
          clear HFit
          go_wp2
          refine ⟨⟨k + 1, by omega, by simp, hb3, fun i y hi hy => ?_⟩, by simp [intOf]; omega⟩
          by_cases e : i = k
          · subst e
            rw [HX.out] at hy
            cases hy
            exact HFit2.out
          · exact HF.out i y (by omega) hy
      · obtain rfl : k = l.length := by omega
        go_wp2
        go_ret
        exact ⟨_, rfl, hb, fun _ => ⟨hn, fun x hx => by
          obtain ⟨i, hi, rfl⟩ := List.mem_iff_getElem.1 hx
          exact HF.out i _ hi (List.getElem?_eq_getElem hi)⟩⟩
  · have t6 : decide ((2147483647 : Int) < (l.length : Int)) = true := by simp; omega
    go_enter Tryd.func10, Tryd.ntmps10
    go_wp2
    go_ret
    exact ⟨_, rfl, Below.refl _ _, fun h => by cases h⟩
end Go.Proofs.YtjkmidohcidkiaaDoor.Li

namespace Go.Proofs.YtjkmidohcidkiaaDoor.Li
open Go.RowKit Go.Proofs.YtjkmidohcidkiaaDoorW.PrintWords Go.Proofs.YtjkmidohcidkiaaDoor.Sp Go.Proofs.YtjkmidohcidkiaaDoor.Fmt Go.Proofs.YtjkmidohcidkiaaDoor.PFnSpans

set_option maxRecDepth 100000 in
theorem told_any (A : Option Addr) (cap : Nat) (l : List StepV) (w : World) (hcap : l.length ≤ cap) (hn : l.length ≤ 2147483647) (hv : StepsAt w A l) :
    Calls Tryd.prog 12 #[.slice A l.length cap] w fun e w' => e = .returned (.int .i64 (cnt l l.length : Nat)) ∧ Below w.heap.size w w' := by
  have HV := Lib.hid hv
  clear hv
  go_enter Tryd.func12, Tryd.ntmps12
  go_wp2_with fail
  go_loopw [3, 8] (fun cv iv wr => ∃ (k c : Nat), k ≤ l.length ∧ iv = .int .i64 k ∧ cv = .int .i64 c ∧ c ≤ k ∧ Hid (c = cnt l k) ∧ Below w.heap.size w wr) (fun _ iv _ => l.length - (intOf iv).toNat)
  case atStart => exact ⟨0, 0, Nat.zero_le _, rfl, rfl, Nat.le_refl _, rfl, Below.refl _ _⟩
  case round =>
    obtain ⟨k, c, hk, rfl, rfl, hck, HC, hb⟩ := hrel
    by_cases hlt : k < l.length
    · have p1 : decide ((k : Int) < (l.length : Int)) = true := by simp; omega
      obtain ⟨x, hx⟩ : ∃ x, l[k] = x := ⟨_, rfl⟩
      have hx' : l[k]? = some x := by rw [List.getElem?_eq_getElem hlt, hx]
      obtain ⟨ad, v, rfl, c0, c1, c2, hst⟩ := (HV.out.below hb) k x hx'
      obtain ⟨B, cc, rfl, hc1, hc2⟩ := hst
      have hb3 := hb.alloc hb.size (.cells #[.int .i64 x.op, .string x.text, .slice B x.texts.length cc] 62)
      have HX := Lib.hid hx'
      clear hc1 hc2 hx hx'
      by_cases ht : told x
      · have t1 : decide ((0 : Int) ≤ x.op) = true := by simpa using ht.1
        have t2 : decide (x.op ≤ (2 : Int)) = true := by simpa using ht.2
        have HC2 : Hid (c + 1 = cnt l (k + 1)) := by show _ = _; rw [cnt_step HX.out ht, ← HC.out]
        clear ht HC
        go_wp2
        exact ⟨⟨k + 1, c + 1, by omega, by simp, by simp, by omega, HC2, hb3⟩, by simp [intOf]; omega⟩
      · have HC2 : Hid (c = cnt l (k + 1)) := by show _ = _; rw [cnt_skip HX.out ht, ← HC.out]
        by_cases h0 : 0 ≤ x.op
        · have t1 : decide ((0 : Int) ≤ x.op) = true := by simpa using h0
          have t2 : decide (x.op ≤ (2 : Int)) = false := by simp; have : ¬ x.op ≤ 2 := fun h => ht ⟨h0, h⟩; omega
          clear ht HC
          go_wp2
          exact ⟨⟨k + 1, c, by omega, by simp, rfl, by omega, HC2, hb3⟩, by simp [intOf]; omega⟩
        · have t1 : decide ((0 : Int) ≤ x.op) = false := by simp; omega
          clear ht HC
          go_wp2
          exact ⟨⟨k + 1, c, by omega, by simp, rfl, by omega, HC2, hb3⟩, by simp [intOf]; omega⟩
    · obtain rfl : k = l.length := by omega
      have p1 : decide ((l.length : Int) < (l.length : Int)) = false := by simp
      have hc := HC.out
      subst hc
      go_wp2
      go_ret
      exact ⟨rfl, hb⟩
end Go.Proofs.YtjkmidohcidkiaaDoor.Li
