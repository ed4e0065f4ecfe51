/- The walks of FnSpanList's closure, of numbers29, and of the law FnSpanList: where what came in is of a size that fits, it returns true. -/
import Derived.Test.YtjkmidohcidkiaaDoorWants
namespace Go.Proofs.YtjkmidohcidkiaaDoor.Li
open Go.RowKit Go.Proofs.YtjkmidohcidkiaaDoorW.PrintWords Go.Proofs.YtjkmidohcidkiaaDoor.Sp Go.Proofs.YtjkmidohcidkiaaDoor.Fmt Go.Proofs.YtjkmidohcidkiaaDoor.Zz

theorem rows_cell {W : World} {base sz n c : Nat} {e : TypeId} {A : Option Addr} {R : List (Bool × List Int)} (h : RowsAt W base e sz (.slice A n c) R) (i : Nat) (p : Bool × List Int) (hp : R[i]? = some p) :
    ∃ (g : Nat) (B : Option Addr) (cb : Nat), A = some ⟨g, 0, none⟩ ∧ W.cell? ⟨g, i * sz, none⟩ = some (.bool p.1) ∧ W.cell? ⟨g, i * sz + 1, none⟩ = some (.slice B p.2.length cb) ∧ ReadsOf i64 0 W B p.2.length p.2 := by
  obtain ⟨cs, h1, _, h3⟩ := h
  obtain ⟨v, b, e1, e2, e3⟩ := h3 i p hp
  obtain ⟨B, cb, rfl, hr⟩ := own_reads_of (d := 0) e3
  have h0 : 0 < R.length := by have := (List.getElem?_eq_some_iff.1 hp).1; omega
  obtain ⟨g, cap, hv, _, _⟩ := h1.form h0
  injection hv with hA _ _
  subst hA
  have k1 := h1.cells (g := g) rfl _ _ e1
  have k2 := h1.cells (g := g) rfl _ _ e2
  rw [add_plain] at k1 k2
  exact ⟨g, B, cb, rfl, k1, k2, hr⟩
theorem rows_len {W : World} {base sz n c : Nat} {e : TypeId} {A : Option Addr} {R : List (Bool × List Int)} (h : RowsAt W base e sz (.slice A n c) R) : n = R.length ∧ n ≤ c := by
  obtain ⟨cs, h1, _⟩ := h
  obtain ⟨A', c', hv⟩ := own_slice h1
  injection hv with _ hn _
  subst hn
  exact ⟨rfl, own_le h1⟩

set_option maxRecDepth 100000 in
theorem said_any (S : Nat) (A : Option Addr) (n c base : Nat) (R : List (Bool × List Int)) (i : Nat) (p : Bool × List Int) (w : World) (hs : w.cell? ⟨S, 0, none⟩ = some (.slice A n c)) (h : RowsAt w base 45 3 (.slice A n c) R) (hp : R[i]? = some p) :
    Calls Tryd.prog 16 #[.int .i64 i, .pointer (some ⟨S, 0, none⟩)] w fun e w' => ∃ (B : Option Addr) (cb : Nat), e = .returned (.tuple #[.bool p.1, .slice B p.2.length cb]) ∧ ReadsOf i64 0 w B p.2.length p.2 ∧ ∃ m, w' = w.drewN m := by
  obtain ⟨g, B, cb, rfl, c0, c1, hr⟩ := rows_cell h i p hp
  obtain ⟨hn, hc⟩ := rows_len h
  have hi : i < n := by rw [hn]; exact (List.getElem?_eq_some_iff.1 hp).1
  have p1 : (i : Int) < (n : Int) := by omega
  go_enter Tryd.func16, Tryd.ntmps16
  go_wp2_with fail
  go_quiet (fail)
  go_wp2
  go_ret2
  exact ⟨B, cb, rfl, hr, _, rfl⟩

set_option maxRecDepth 100000 in
set_option maxHeartbeats 400000 in
theorem numbers_any (S : Nat) (A : Option Addr) (n c base : Nat) (R : List (Bool × List Int)) (A2 : Option Addr) (n2 c2 base2 : Nat) (R2 : List (Bool × List Int)) (w : World) (hs : w.cell? ⟨S, 0, none⟩ = some (.slice A n c))
    (h : RowsAt w base 45 3 (.slice A n c) R) (h2 : RowsAt w base2 71 2 (.slice A2 n2 c2) R2) (hpre : R2 <+: R) (hn2 : n2 ≤ 2147483647) :
    Calls Tryd.prog 13 #[.slice A2 n2 c2, .func (.func 16) #[] #[.pointer (some ⟨S, 0, none⟩)]] w fun e w' => e = .returned (.bool true) ∧ ∃ m, w' = w.drewN m := by
  obtain ⟨rfl, hc2⟩ := rows_len h2
  have H := Lib.hid h
  have H2 := Lib.hid h2
  have HP := Lib.hid hpre
  clear h h2 hpre
  go_enter Tryd.func13, Tryd.ntmps13
  go_wp2_with fail
  go_loopw [10] (fun iv wr => ∃ k : Nat, k ≤ R2.length ∧ iv = .int .i64 k ∧ ∃ m, wr = w.drewN m) (fun iv _ => R2.length - (intOf iv).toNat)
  case atStart => exact ⟨0, Nat.zero_le _, rfl, 0, rfl⟩
  case round =>
    obtain ⟨k, hk, rfl, m, rfl⟩ := hrel
    by_cases hlt : k < R2.length
    · have p1 : (k : Int) < (R2.length : Int) := by omega
      have hp2 : R2[k]? = some R2[k] := List.getElem?_eq_getElem (by omega)
      obtain ⟨p, hp⟩ : ∃ p, R2[k] = p := ⟨_, rfl⟩
      rw [hp] at hp2
      have hp1 : R[k]? = some p := by
        obtain ⟨t, ht⟩ := HP.out
        rw [← ht, List.getElem?_append_left (by omega)]
        exact hp2
      obtain ⟨g, B, cb, rfl, c0, c1, hr⟩ := rows_cell H2.out k p hp2
      have tt : (p.1 != p.1) = false := by simp
      have HP1 := Lib.hid hp1
      clear hp hp2 hp1
      go_wp2_with fail
      refine (said_any S A n c base R k p (w.drewN m) hs (H.out.move (fun _ _ _ _ _ => rfl)) HP1.out).mono ?_
      rintro e w2 ⟨B2, cb2, rfl, hr2, m2, rfl⟩
      go_wp2_with fail
      refine (alike_any B2 B p.2.length cb2 cb p.2 (w.drewN (m + m2)) hr2 hr).mono ?_
      rintro e w3 ⟨rfl, m3, rfl⟩
      go_wp2
      exact ⟨⟨k + 1, by omega, by simp, _, rfl⟩, by simp [intOf]; omega⟩
    · obtain rfl : k = R2.length := by omega
      have p1 : decide ((R2.length : Int) < (R2.length : Int)) = false := by simp
      go_wp2
      go_ret
      exact ⟨rfl, m, rfl⟩
end Go.Proofs.YtjkmidohcidkiaaDoor.Li

namespace Go.Proofs.YtjkmidohcidkiaaDoor.Li
open Go.RowKit Go.Proofs.YtjkmidohcidkiaaDoorW.PrintWords Go.Proofs.YtjkmidohcidkiaaDoor.Sp Go.Proofs.YtjkmidohcidkiaaDoor.Fmt Go.Proofs.YtjkmidohcidkiaaDoor.Zz

theorem prefix_of {df : List Int} {l : List StepV} {k : Nat} {it it2 : List Int} {st ch : Bool} {R R2 : List (Bool × List Int)} (h : IRun IStep df l l.length it ch R) (h2 : IRun WStep df l k it2 st R2) (hk : k ≤ l.length) : R2 <+: R := by
  obtain ⟨a, b, c, h3, h4⟩ := run_pre h k hk
  obtain ⟨_, _, rfl⟩ := run_agree h2 h3
  exact h4

theorem rows_form {W : World} {base sz : Nat} {e : TypeId} {ov : Value} {R : List (Bool × List Int)} (h : RowsAt W base e sz ov R) : ∃ A c, ov = .slice A R.length c := by
  obtain ⟨cs, h1, _⟩ := h
  exact own_slice h1

set_option maxRecDepth 100000 in
set_option maxHeartbeats 1000000 in
theorem FnSpanList_any (A : Option Addr) (cap : Nat) (df : List Int) (A2 : Option Addr) (cap2 : Nat) (l : List StepV) (w : World) (bm : Nat) (a : Addr) (hr : ReadsOf i64 0 w A df.length df) (hcap0 : df.length ≤ cap) (hv : StepsAt w A2 l) (hcap : l.length ≤ cap2)
    (hroom : room df l l.length ≤ 4294967296) (hu : UM w bm a) :
    Calls Tryd.prog 4 #[.slice A df.length cap, .slice A2 l.length cap2] w fun e w' => e = .returned (.bool true) ∧ Below w.heap.size w w' := by
  by_cases hd : df.length ≤ 2147483647
  · have p8 : decide ((2147483647 : Int) < (df.length : Int)) = false := by simp; omega
    have HROOM := Lib.hid hroom
    clear hroom
    go_enter Tryd.func4, Tryd.ntmps4
    go_wp2_with fail
    refine (fits7_any A2 cap2 l _ hcap hv).mono ?_
    rintro e w1 ⟨b, rfl, hb1, hfit⟩
    have HF := Lib.hid hfit
    clear hfit
    cases b
    · go_wp2
      go_ret
      exact ⟨rfl, hb1⟩
    have hn := (HF.out rfl).1
    have HF8 := Lib.hid (HF.out rfl).2
    clear HF
    go_wp2_with fail
    refine (slist_any A cap df A2 cap2 l _ bm a (hr.below hb1) (hv.below hb1) hcap hn HROOM.out HF8.out (um_below hu hb1)).mono ?_
    rintro e w2 ⟨sv, R, it, ch, rfl, hrows, hrun, hb2⟩
    have hb12 : Below w.heap.size w w2 := hb1.trans (hb2.mono hb1.size)
    have hlen := run_len hrun
    obtain ⟨A5, c5, rfl⟩ : ∃ A5 c5, sv = .slice A5 R.length c5 := by
      obtain ⟨cs, h1, _⟩ := hrows
      exact own_slice h1
    have t21 : ((R.length : Int) == ((cnt l l.length : Nat) : Int)) = true := by simp [hlen]
    obtain ⟨S, hS⟩ : ∃ S, w2.heap.size = S := ⟨_, rfl⟩
    have hal : Below w2.heap.size w2 (w2.alloc (.cells #[.slice A5 R.length c5] 36)) := (Below.refl _ _).alloc (Nat.le_refl _) _
    have hc0 : (w2.alloc (.cells #[.slice A5 R.length c5] 36)).cell? ⟨S, 0, none⟩ = some (.slice A5 R.length c5) := by rw [← hS, blk_cell (heap_alloc_new w2 _)]; rfl
    have hbw : Below w.heap.size w (w2.alloc (.cells #[.slice A5 R.length c5] 36)) := hb12.trans (hal.mono hb12.size)
    have hrw := hrows.below hal
    have hra := hr.below hbw
    have hva := hv.below hbw
    have HRUN := Lib.hid hrun
    clear hrun hlen hrows hal hb12 hb1 hb2 hr hv
    go_wp2_with fail
    obtain ⟨W, hW⟩ : ∃ W, w2.alloc (.cells #[.slice A5 R.length c5] 36) = W := ⟨_, rfl⟩
    rw [hW] at hc0 hbw hrw hra hva ⊢
    clear hW
    have hbd : Below W.heap.size W W.drew := below_drew1 (Below.refl _ _)
    have hrd := hrw.below hbd
    have hrad := hra.below hbd
    have hvad := hva.below hbd
    have hcd : W.drew.cell? ⟨S, 0, none⟩ = some (.slice A5 R.length c5) := hc0
    go_region_held3 (fun w' => w'.cell? ⟨S, 0, none⟩ = some (.slice A5 R.length c5)) (first | exact hc0 | exact pw_cell_below hb3 hc0 | exact pw_cell_below hb4 (pw_cell_below hb3 hc0) | exact pw_cell_below hb5 (pw_cell_below hb4 (pw_cell_below hb3 hc0)))
      (first
        | (go_at_call 12; refine (told_any A2 cap2 l W.drew hcap hn hvad).mono ?_; rintro e w3 ⟨rfl, hb3⟩)
        | (go_at_call 15; refine (cuts_any _).mono ?_; rintro e w4 ⟨rfl, hb4, hc4⟩)
        | (go_at_call 14; refine (wants_any A cap df A2 cap2 l _ _ ((hrad.below hb3).below hb4) ((hvad.below hb3).below hb4) hcap hn HROOM.out HF8.out hc4).mono ?_; rintro e w5 ⟨wv, R2, k, it2, st, rfl, hrows2, hk, hrun2, hb5⟩; obtain ⟨A6, c6, rfl⟩ := rows_form hrows2; have hn2 : R2.length ≤ 2147483647 := Nat.le_trans (Nat.le_trans (by rw [run_len hrun2]; exact cnt_le _ _) hk) hn; have hS5 := pw_cell_below hb5 (pw_cell_below hb4 (pw_cell_below hb3 hcd)))
        | (go_at_call 13; refine (numbers_any S A5 R.length c5 _ R A6 R2.length c6 _ R2 w5 hS5 (((hrd.below hb3).below hb4).below hb5) hrows2 (prefix_of HRUN.out hrun2 hk) hn2).mono ?_; rintro e w6 ⟨rfl, m6, rfl⟩))
    all_goals
      go_wp2
      go_ret
      refine ⟨rfl, below_drewN ?_ _⟩
      exact (((hbw.trans (hbd.mono hbw.size)).trans (hb3.mono hbw.size)).trans (hb4.mono (Nat.le_trans hbw.size hb3.size))).trans (hb5.mono (Nat.le_trans hbw.size (Nat.le_trans hb3.size hb4.size)))
  · have p8 : decide ((2147483647 : Int) < (df.length : Int)) = true := by simp; omega
    go_enter Tryd.func4, Tryd.ntmps4
    go_wp2
    go_ret
    exact ⟨rfl, Below.refl _ _⟩
end Go.Proofs.YtjkmidohcidkiaaDoor.Li
