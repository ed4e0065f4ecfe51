/- The walk of the implementation's SpanValue: the duration door, set and asked over a list of texts. -/
import Derived.Test.YtjkmidohcidkiaaDoorZz
import Derived.Test.YtjkmidohcidkiaaDoorWFoot
import Derived.WalkKit
import Derived.Deep.AppendLies
import Derived.Deep.RegionLaw
namespace Go.Proofs.YtjkmidohcidkiaaDoor.Zz
open Go.RowKit Go.Proofs.YtjkmidohcidkiaaDoorW.PrintWords Go.Proofs.YtjkmidohcidkiaaDoor.Sp Go.Proofs.YtjkmidohcidkiaaDoor.Fmt

def Good (s : ByteArray) (b : Bool) (v : Int) : Prop := -9223372036854775808 ≤ v ∧ v ≤ 9223372036854775807 ∧
  ((b = false ∧ (spanR (bl s) = .fit v ∨ spanR (bl s) = .opn)) ∨ (b = true ∧ NoFit (spanR (bl s))))
def Outs (l : List ByteArray) (k : Nat) (cs : List Value) : Prop := cs.length = 3 * k ∧ ∀ i, i < k → ∃ (b : Bool) (v : Int),
  cs[3 * i]? = some (.bool b) ∧ cs[3 * i + 1]? = some (.int .i64 v) ∧ cs[3 * i + 2]? = some (.string (durStr v)) ∧ Good (rdOf ByteArray.empty l i) b v
theorem Outs.nil (l : List ByteArray) : Outs l 0 [] := ⟨rfl, fun i hi => absurd hi (by omega)⟩
theorem Outs.snoc {l : List ByteArray} {k : Nat} {cs : List Value} (h : Outs l k cs) (b : Bool) (v : Int) (hg : Good (rdOf ByteArray.empty l k) b v) :
    Outs l (k + 1) (cs ++ [.bool b, .int .i64 v, .string (durStr v)]) := by
  obtain ⟨h1, h2⟩ := h
  refine ⟨by simp [h1]; omega, fun i hi => ?_⟩
  by_cases hk : i < k
  · obtain ⟨b1, v1, e1, e2, e3, e4⟩ := h2 i hk
    exact ⟨b1, v1, by rw [List.getElem?_append_left (by omega)]; exact e1, by rw [List.getElem?_append_left (by omega)]; exact e2, by rw [List.getElem?_append_left (by omega)]; exact e3, e4⟩
  · obtain rfl : i = k := by omega
    refine ⟨b, v, ?_, ?_, ?_, hg⟩
    · rw [List.getElem?_append_right (by omega), h1, Nat.sub_self]; rfl
    · rw [List.getElem?_append_right (by omega), h1, show 3 * i + 1 - 3 * i = 1 by omega]; rfl
    · rw [List.getElem?_append_right (by omega), h1, show 3 * i + 2 - 3 * i = 2 by omega]; rfl

theorem um_below {w W : World} {bm : Nat} {a : Addr} (h : UM w bm a) (hb : Below w.heap.size w W) : UM W bm a :=
  ⟨pw_cell_below hb h.c0, pw_cell_below hb h.c1, Nat.lt_of_lt_of_le h.lt hb.size, fun X hX u hs => h.look X (hX.trans (hb.block bm h.lt)) u hs⟩

def ValEnd (l : List ByteArray) (w : World) (e : Ending) (w' : World) : Prop :=
  ∃ (v : Value) (cs : List Value), e = .returned v ∧ w'.ownsRow w.heap.size 27 3 v l.length cs ∧ Outs l l.length cs ∧ Below w.heap.size w w'

def z27 : Value := .agg #[.bool false, .int .i64 0, .string ⟨#[]⟩]
theorem info27 : (Tryd.prog.info? 27).map (fun i => (i.zero, i.size, i.bytes)) = some (some z27, 3, 32) := by kernel_rfl
theorem oc27 (b : Bool) (v : Int) (s : ByteArray) : ∀ u ∈ [Value.bool b, .int .i64 v, .string s], u.oneCell' = true := by
  intro u hu
  simp at hu
  rcases hu with rfl | rfl | rfl <;> rfl
theorem own_far {v : Value} {B : Nat} (h : ∀ g, v.ownBlock = some g → B + 2 ≤ g) : v.ownBlock = none ∨ v.ownBlock ≠ some B := by
  cases hv : v.ownBlock with
  | none => exact .inl rfl
  | some g => exact .inr (by intro e; injection e with e; have := h g hv; omega)
theorem own_below {w w' : World} {base n size : Nat} {e : TypeId} {v : Value} {xs : List Value} (h : w.ownsRow base e size v n xs) (hb : Below w.heap.size w w') : w'.ownsRow base e size v n xs :=
  h.kept (row := none) ⟨hb.os, hb.tape, hb.output, hb.size, fun k hk _ => hb.block k hk⟩ (by cases v.ownBlock <;> simp)

set_option maxRecDepth 100000 in
set_option maxHeartbeats 400000 in
theorem value_any (d : Int) (A : Option Addr) (cap : Nat) (l : List ByteArray) (w : World) (bm : Nat) (a : Addr) (hr : Kd.C Kd.string w A l.length l) (hcap : l.length ≤ cap) (hn : l.length ≤ 2147483647)
    (hl : ∀ s ∈ l, s.size ≤ 2147483647) (hu : UM w bm a) : Calls Tryd.prog 6 #[.int .i64 d, .slice A l.length cap] w (ValEnd l w) := by
  have HR := Lib.hid hr
  have HL := Lib.hid hl
  clear hr hl
  go_enter Tryd.func6, Tryd.ntmps6
  go_wp2_with fail
  refine (make_any d w).mono ?_
  rintro e w1 ⟨rfl, hb1, hs1, hbox⟩
  go_wp2_with fail
  go_loopw [7, 18] (fun ov iv wr => ∃ (k : Nat) (cs : List Value) (d2 : Int), k ≤ l.length ∧ iv = .int .i64 k ∧ wr.ownsRow (w.heap.size + 2) 27 3 ov k cs ∧ Hid (Outs l k cs) ∧ Box wr w.heap.size d2 ∧ Below w.heap.size w wr ∧ w.heap.size + 2 ≤ wr.heap.size) (fun _ iv _ => l.length - (intOf iv).toNat)
  case atStart => exact ⟨0, [], d, Nat.zero_le _, rfl, World.ownsRow_nil _ _ _ _, Outs.nil l, hbox, hb1, by omega⟩
  case round =>
    obtain ⟨k, cs, d2, hk, rfl, hown, Hout, hbox2, hb2, hsz⟩ := hrel
    clear hbox hb1 hs1
    by_cases hlt : k < l.length
    · have p1 : (0 : Int) ≤ (k : Int) := by omega
      have p2 : (k : Int) < (l.length : Int) := by omega
      obtain ⟨ad, rfl, hcell⟩ := Kd.at_string (Kd.C_below HR.out hb2) (k : Int) p1 p2
      obtain ⟨s, hs⟩ : ∃ s, rdOf ByteArray.empty l (k : Int) = s := ⟨_, rfl⟩
      have hss : s.size ≤ 2147483647 := by
        rw [← hs]
        refine HL.out _ ?_
        simp [rdOf, List.getD_eq_getElem?_getD, List.getElem?_eq_getElem hlt]
      have Hs := Lib.hid hs
      rw [hs, Int.toNat_natCast] at hcell
      clear hs
      have hset := set_any s wr w.heap.size d2 bm a hss (um_below hu hb2) hbox2 (by omega)
      go_wp2_with fail
      refine hset.mono ?_
      rintro e w2 ⟨v, E, rfl, hbox3, hg2, hv1, hv2, hE⟩
      have hown2 := hown.kept hg2 (own_far (own_base hown))
      clear hset hown hcell hbox2
      have hsz2 : w.heap.size + 2 ≤ w2.heap.size := Nat.le_trans hsz hg2.size
      have hb3 : Below w.heap.size w w2 := hb2.grown hg2 (by omega) (by intro g hg; injection hg with hg; omega)
      have hkb : (k + 1) * 32 ≤ 140737488355328 := by omega
      obtain ⟨b, hb, hE2⟩ : ∃ b : Bool, (b = true ↔ E ≠ .nilIface) ∧ Good s b v := by
        rcases hE with ⟨h1, h2⟩ | ⟨p, h1, h2⟩
        · exact ⟨false, by simp [h1], hv1, hv2, .inl ⟨rfl, h2⟩⟩
        · exact ⟨true, by simp [h1, Value.nilIface], hv1, hv2, .inr ⟨rfl, h2⟩⟩
      have hboxd : Box w2.drew w.heap.size v := ⟨hbox3.val, hbox3.ptr⟩
      have hszd : w.heap.size + 2 ≤ w2.drew.heap.size := hsz2
      have hownd : w2.drew.ownsRow (w.heap.size + 2) 27 3 u7 k cs := hown2.drew
      have fin : ∀ (w4 w5 : World), Below w2.drew.heap.size w2.drew w4 → Below (w.heap.size + 2) w4 w5 → Box w5 w.heap.size v ∧ Below w.heap.size w w5 ∧ w.heap.size + 2 ≤ w5.heap.size := fun w4 w5 h4 h5 =>
        ⟨(hboxd.below h4 (Nat.lt_of_lt_of_le (by omega) hszd)).below h5 (by omega),
          ((hb3.trans (below_drew1 (Below.refl _ _))).trans (h4.mono (Nat.le_trans (Nat.le_add_right _ 2) hszd))).trans (h5.mono (by omega)), Nat.le_trans hszd (Nat.le_trans h4.size h5.size)⟩
      have hout2 := Hout.out.snoc b v (by rw [show rdOf ByteArray.empty l k = s from Hs.out]; exact hE2)
      have Hout2 := Lib.hid hout2
      have Fin := Lib.hid fin
      clear fin hout2 hE2
      rcases hE with ⟨rfl, _⟩ | ⟨p, rfl, _⟩
      · have hbf : b = false := by
          cases b
          · rfl
          · exact absurd rfl (hb.1 rfl)
        subst hbf
        clear hb
        go_wp2_with fail
        go_region_law (first
          | ((with_reducible refine step_append_cells (w.heap.size + 2) ?hw (.tmp 25) (.tmp 33) 24 27 z27 3 32 ?ho Tryd.underlying24 info27 ?hz ?h1 ?h2 u7 k cs [.bool false, .int .i64 v, .string (durStr v)] ?hs ?hx ?hy (oc27 _ _ _) (own_below hownd hb4) (Below.refl _ _) (Nat.le_trans hszd hb4.size) hkb ?_); (case hw => rfl); (case ho => rfl); (case hz => rfl); (case h1 => omega); (case h2 => omega); (case hs => rfl); (case hx => rfl); (case hy => rfl); intro v1 w5 hown5 hb5 hg5 hat5)
          | (go_simp; go_at_call 33; refine (now_any v _ w.heap.size hboxd).mono ?_; rintro e w3 ⟨rfl, rfl⟩)
          | (go_simp; go_at_call 19; refine (ValueString_any v _ w.heap.size hboxd.cell hv1 hv2).mono ?_; rintro e w4 ⟨rfl, hb4⟩))
        obtain ⟨f1, f2, f3⟩ := Fin.out _ _ hb4 hb5
        go_wp2
        exact ⟨⟨k + 1, _, v, by omega, by simp, hown5, Hout2, f1, f2, f3⟩, by simp [intOf]; omega⟩
      · have hbf : b = true := by
          cases b
          · exact absurd (hb.2 (by simp [Value.nilIface])) (by simp)
          · rfl
        subst hbf
        clear hb
        go_wp2_with fail
        go_region_law (first
          | ((with_reducible refine step_append_cells (w.heap.size + 2) ?hw (.tmp 25) (.tmp 33) 24 27 z27 3 32 ?ho Tryd.underlying24 info27 ?hz ?h1 ?h2 u7 k cs [.bool true, .int .i64 v, .string (durStr v)] ?hs ?hx ?hy (oc27 _ _ _) (own_below hownd hb4) (Below.refl _ _) (Nat.le_trans hszd hb4.size) hkb ?_); (case hw => rfl); (case ho => rfl); (case hz => rfl); (case h1 => omega); (case h2 => omega); (case hs => rfl); (case hx => rfl); (case hy => rfl); intro v1 w5 hown5 hb5 hg5 hat5)
          | (go_simp; go_at_call 33; refine (now_any v _ w.heap.size hboxd).mono ?_; rintro e w3 ⟨rfl, rfl⟩)
          | (go_simp; go_at_call 19; refine (ValueString_any v _ w.heap.size hboxd.cell hv1 hv2).mono ?_; rintro e w4 ⟨rfl, hb4⟩))
        obtain ⟨f1, f2, f3⟩ := Fin.out _ _ hb4 hb5
        go_wp2
        exact ⟨⟨k + 1, _, v, by omega, by simp, hown5, Hout2, f1, f2, f3⟩, by simp [intOf]; omega⟩
    · obtain rfl : k = l.length := by omega
      go_wp2
      go_ret
      exact ⟨_, cs, rfl, own_weaken hown (by omega), Hout.out, hb2⟩
end Go.Proofs.YtjkmidohcidkiaaDoor.Zz
