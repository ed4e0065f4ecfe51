/- The walk of the law FnSpans: whatever the texts, it returns true. -/
import Derived.Test.YtjkmidohcidkiaaDoorValue
import Derived.Test.YtjkmidohcidkiaaDoorSpanW
import Derived.Test.YtjkmidohcidkiaaDoorSpanText
import Derived.Deep.RegionHeld3
namespace Go.Proofs.YtjkmidohcidkiaaDoor.Cl
open Go.RowKit Go.Proofs.YtjkmidohcidkiaaDoorW.PrintWords Go.Proofs.YtjkmidohcidkiaaDoor.Sp Go.Proofs.YtjkmidohcidkiaaDoor.Fmt Go.Proofs.YtjkmidohcidkiaaDoor.Zz Go.Proofs.YtjkmidohcidkiaaDoor.PFnSpans

theorem rd_at (l : List ByteArray) (i : Nat) (h : i < l.length) : rdOf ByteArray.empty l (i : Int) = l[i] := by
  simp [rdOf, List.getD_eq_getElem?_getD, List.getElem?_eq_getElem h]

theorem fits_loop (l : List ByteArray) (hn : l.length ≤ 2147483647) : ∀ j i : Nat, i + j = l.length → ∃ k b, laws_zzFits2.l0 k l (l.length : Int) (i : Int) = some b ∧ (b = true → ∀ (t : Nat) (ht : t < l.length), i ≤ t → l[t].size ≤ 2147483647) := by
  intro j
  induction j with
  | zero =>
    intro i hi
    refine ⟨1, true, ?_, fun _ t ht hit => by omega⟩
    rw [laws_zzFits2.l0, if_neg (by omega)]
  | succ j ih =>
    intro i hi
    have hil : i < l.length := by omega
    by_cases hs : l[i].size ≤ 2147483647
    · obtain ⟨k, b, hk, hb⟩ := ih (i + 1) (by omega)
      refine ⟨k + 1, b, ?_, fun hbt t ht hit => ?_⟩
      · rw [laws_zzFits2.l0, if_pos (by omega), if_pos (by omega), if_pos (by omega), rd_at l i hil, if_neg (by omega), show wrap64 ((i : Int) + 1) = ((i + 1 : Nat) : Int) by unfold wrap64; omega]
        exact hk
      · by_cases e : t = i
        · subst e; exact hs
        · exact hb hbt t ht (by omega)
    · refine ⟨1, false, ?_, fun h => by cases h⟩
      rw [laws_zzFits2.l0, if_pos (by omega), if_pos (by omega), if_pos (by omega), rd_at l i hil, if_pos (by omega)]
theorem fits_ev (l : List ByteArray) : ∃ k b, laws_zzFits2.f k l = some b ∧ (b = true → l.length ≤ 2147483647 ∧ ∀ s ∈ l, s.size ≤ 2147483647) := by
  by_cases hn : l.length ≤ 2147483647
  · obtain ⟨k, b, hk, hb⟩ := fits_loop l hn l.length 0 (by omega)
    refine ⟨k, b, by rw [laws_zzFits2.f, if_neg (by omega)]; exact hk, fun h => ⟨hn, fun s hs => ?_⟩⟩
    obtain ⟨t, ht, rfl⟩ := List.mem_iff_getElem.1 hs
    exact hb h t ht (by omega)
  · exact ⟨0, false, by rw [laws_zzFits2.f, if_pos (by omega)], fun h => by cases h⟩

/-- The rows of the value, read cell by cell. -/
theorem rows_read {w : World} {base : Nat} {v : Value} {l : List ByteArray} {cs : List Value} (h : w.ownsRow base 27 3 v l.length cs) (ho : Outs l l.length cs) :
    ∃ A c, v = .slice A l.length c ∧ ∀ i, i < l.length → ∃ (g : Nat) (b : Bool) (x : Int), A = some ⟨g, 0, none⟩ ∧ g < w.heap.size ∧
      w.cell? ⟨g, i * 3, none⟩ = some (.bool b) ∧ w.cell? ⟨g, i * 3 + 1, none⟩ = some (.int .i64 x) ∧ w.cell? ⟨g, i * 3 + 2, none⟩ = some (.string (durStr x)) ∧ Zz.Good (Go.Proofs.YtjkmidohcidkiaaDoorW.PrintWords.rdOf ByteArray.empty l (i : Int)) b x := by
  rcases Nat.eq_zero_or_pos l.length with h0 | h0
  · rcases h.2 with ⟨rfl, hn⟩ | ⟨g, cap, cur, rfl, _⟩
    · exact ⟨none, 0, by rw [h0], fun i hi => absurd hi (by omega)⟩
    · exact ⟨_, cap, rfl, fun i hi => absurd hi (by omega)⟩
  · obtain ⟨g, cap, rfl, _, hg⟩ := h.form h0
    refine ⟨_, cap, rfl, fun i hi => ?_⟩
    obtain ⟨b, x, e1, e2, e3, e4⟩ := ho.2 i hi
    have c1 := h.cells (g := g) rfl _ _ e1
    have c2 := h.cells (g := g) rfl _ _ e2
    have c3 := h.cells (g := g) rfl _ _ e3
    rw [add_plain] at c1 c2 c3
    rw [Nat.mul_comm] at c1 c2 c3
    exact ⟨g, b, x, rfl, hg, c1, c2, c3, e4⟩

set_option maxRecDepth 100000 in
set_option maxHeartbeats 1600000 in
theorem FnSpans_any (d : Int) (A : Option Addr) (cap : Nat) (l : List ByteArray) (w : World) (bm : Nat) (a : Addr) (hr : Kd.C Kd.string w A l.length l) (hcap : l.length ≤ cap) (hu : UM w bm a) :
    Calls Tryd.prog 3 #[.int .i64 d, .slice A l.length cap] w fun e w' => e = .returned (.bool true) ∧ Below w.heap.size w w' := by
  obtain ⟨kf, b, hk, hb⟩ := fits_ev l
  have HK := Lib.hid hk
  have HB := Lib.hid hb
  have HR := Lib.hid hr
  clear hk hb hr
  go_enter Tryd.func3, Tryd.ntmps3
  go_wp2_with fail
  refine (laws_zzFits2.calls kf A cap l b w HR.out hcap HK.out).mono ?_
  rintro e w1 ⟨rfl, ⟨n1, rfl⟩⟩
  cases b
  · go_wp2
    go_ret
    exact ⟨rfl, Drawn0.below ⟨⟨n1, rfl⟩⟩⟩
  have hn := (HB.out rfl).1
  have hl := (HB.out rfl).2
  have HL := Lib.hid hl
  clear hl HB HK
  have hbd : Below w.heap.size w (w.drewN n1) := Drawn0.below ⟨⟨n1, rfl⟩⟩
  go_wp2_with fail
  refine (value_any d A cap l (w.drewN n1) bm a (Kd.C_below HR.out hbd) hcap hn HL.out (um_below hu hbd)).mono ?_
  rintro e w2 ⟨v, cs, rfl, hown, hout, hb2⟩
  obtain ⟨A2, c2, rfl, hrows⟩ := rows_read hown hout
  have HROWS := Lib.hid hrows
  have hb3 : Below w.heap.size w w2 := hbd.trans hb2
  clear hrows hown hout hb2 hbd
  go_wp2_with fail
  go_loopw [23] (fun iv wr => ∃ k : Nat, k ≤ l.length ∧ iv = .int .i64 k ∧ Below w2.heap.size w2 wr) (fun iv _ => l.length - (intOf iv).toNat)
  case atStart => exact ⟨0, Nat.zero_le _, rfl, Below.refl _ _⟩
  case round =>
    obtain ⟨k, hk, rfl, hb4⟩ := hrel
    by_cases hlt : k < l.length
    · have p1 : (0 : Int) ≤ (k : Int) := by omega
      have p2 : (k : Int) < (l.length : Int) := by omega
      obtain ⟨g, b, x, rfl, hg, c1, c2', c3, hgood⟩ := HROWS.out k hlt
      have c1' := pw_cell_below hb4 c1
      have c2'' := pw_cell_below hb4 c2'
      have c3' := pw_cell_below hb4 c3
      have hbw : Below w.heap.size w wr := hb3.trans (hb4.mono hb3.size)
      obtain ⟨ad, rfl, hcell⟩ := Kd.at_string (Kd.C_below HR.out hbw) (k : Int) p1 p2
      rw [rd_at l k hlt, Int.toNat_natCast] at hcell
      rw [rd_at l k hlt] at hgood
      obtain ⟨s, hs⟩ : ∃ s, l[k] = s := ⟨_, rfl⟩
      rw [hs] at hcell hgood
      have hss : s.size ≤ 2147483647 := by rw [← hs]; exact HL.out _ (List.getElem_mem hlt)
      clear hs c1 c2' c3
      have hcell2 : (wr.alloc (.cells #[.bool b, .int .i64 x, .string (durStr x)] 27)).cell? (ad.add k) = some (.string s) := pw_cell_below ((Below.refl _ _).alloc (Nat.le_refl _) _) hcell
      have hbA : Below w2.heap.size w2 (wr.alloc (.cells #[.bool b, .int .i64 x, .string (durStr x)] 27)) := hb4.alloc hb4.size _
      go_wp2_with fail
      refine (Pt.span_any s _ hss).mono ?_
      rintro e w3 ⟨n3, v, kk, rfl, rfl, hsp⟩
      have hbD : Below w2.heap.size w2 ((wr.alloc (.cells #[.bool b, .int .i64 x, .string (durStr x)] 27)).drewN n3) := below_drewN hbA n3
      have hx := hgood.1
      have hx2 := hgood.2.1
      have hg3 := hgood.2.2
      have hblk : ((wr.alloc (.cells #[.bool b, .int .i64 x, .string (durStr x)] 27)).drewN n3).heap[wr.heap.size]? = some (.cells #[.bool b, .int .i64 x, .string (durStr x)] 27 (0, 0)) := heap_alloc_new wr _
      clear hgood hcell2 hcell c1' c2'' c3' hb4 hbw hbA
      obtain ⟨W, hW⟩ : ∃ W, (wr.alloc (.cells #[.bool b, .int .i64 x, .string (durStr x)] 27)).drewN n3 = W := ⟨_, rfl⟩
      obtain ⟨B, hB⟩ : ∃ B, wr.heap.size = B := ⟨_, rfl⟩
      rw [hW] at hblk hbD ⊢
      rw [hB] at hblk ⊢
      have e0 : W.cell? ⟨B, 0, none⟩ = some (.bool b) := by rw [blk_cell hblk]; rfl
      have e1 : W.cell? ⟨B, 1, none⟩ = some (.int .i64 x) := by rw [blk_cell hblk]; rfl
      have e2 : W.cell? ⟨B, 2, none⟩ = some (.string (durStr x)) := by rw [blk_cell hblk]; rfl
      clear hW hB hblk
      rcases hsp with ⟨hR, rfl, rfl⟩ | ⟨hR, rfl, rfl⟩ | ⟨hR, rfl⟩
      · have hbt : b = true := by
          rcases hg3 with ⟨_, h | h⟩ | ⟨h, _⟩
          · rw [hR] at h; cases h
          · rw [hR] at h; cases h
          · exact h
        subst hbt
        clear hg3 hR
        go_wp2_with fail
        go_quiet ((go_at_call 8; refine Calls.quiet_of_same (heard_any 2 (.inr (.inr rfl)) true _)))
        go_wp2
        exact ⟨⟨k + 1, by omega, by simp, below_drewN hbD _⟩, by simp [intOf]; omega⟩
      · clear hg3 hR
        cases b
        · go_wp2_with fail
          go_quiet ((go_at_call 8; refine Calls.quiet_of_same (heard_any 0 (.inl rfl) false _)))
          go_wp2
          exact ⟨⟨k + 1, by omega, by simp, below_drewN hbD _⟩, by simp [intOf]; omega⟩
        · go_wp2_with fail
          go_quiet ((go_at_call 8; refine Calls.quiet_of_same (heard_any 0 (.inl rfl) true _)))
          go_wp2
          exact ⟨⟨k + 1, by omega, by simp, below_drewN hbD _⟩, by simp [intOf]; omega⟩
      · have hbt : b = false ∧ v = x := by
          rcases hg3 with ⟨h1, h | h⟩ | ⟨_, h⟩
          · rw [hR] at h; injection h with h; exact ⟨h1, h⟩
          · rw [hR] at h; cases h
          · exact absurd hR (h v)
        obtain ⟨rfl, rfl⟩ := hbt
        clear hg3 hR
        go_wp2_with fail
        go_region_held3 (fun w' => w'.cell? ⟨B, 0, none⟩ = some (.bool false) ∧ w'.cell? ⟨B, 1, none⟩ = some (.int .i64 v) ∧ w'.cell? ⟨B, 2, none⟩ = some (.string (durStr v))) (first | exact ⟨e0, e1, e2⟩ | exact ⟨pw_cell_below hb5 e0, pw_cell_below hb5 e1, pw_cell_below hb5 e2⟩)
          (first | (go_at_call 8; refine (heard_any 1 (.inr (.inl rfl)) false _).mono ?_; rintro e w4 ⟨rfl, rfl⟩) | (go_at_call 9; refine (SpanText_any v _ hx hx2).mono ?_; rintro e w4 ⟨rfl, hb5⟩))
        have hbE : Below w2.heap.size w2 w4 := (below_drew1 hbD).trans (hb5.mono hbD.size)
        go_wp2
        exact ⟨⟨k + 1, by omega, by simp, hbE⟩, by simp [intOf]; omega⟩
    · obtain rfl : k = l.length := by omega
      go_wp2
      go_ret
      exact ⟨rfl, hb3.trans (hb4.mono hb3.size)⟩
end Go.Proofs.YtjkmidohcidkiaaDoor.Cl
