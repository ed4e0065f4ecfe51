/- The walks of alike29, each29, cuts29 and its closure. -/
import Derived.Test.YtjkmidohcidkiaaDoorCut
import Derived.Test.YtjkmidohcidkiaaDoorRun
import Derived.Test.YtjkmidohcidkiaaDoorCall
namespace Go.Proofs.YtjkmidohcidkiaaDoor.Li
open Go.RowKit Go.Proofs.YtjkmidohcidkiaaDoorW.PrintWords Go.Proofs.YtjkmidohcidkiaaDoor.Sp Go.Proofs.YtjkmidohcidkiaaDoor.Fmt

abbrev i64 (x : Int) : Value := .int .i64 x
theorem info2 : (Tryd.prog.info? 2).map (fun i => (i.zero, i.size, i.bytes)) = some (some (.int .i64 0), 1, 8) := by kernel_rfl

set_option maxRecDepth 100000 in
theorem alike_any (A B : Option Addr) (n c1 c2 : Nat) (xs : List Int) (w : World) (hA : ReadsOf i64 0 w A n xs) (hB : ReadsOf i64 0 w B n xs) :
    Calls Tryd.prog 28 #[.slice A n c1, .slice B n c2] w fun e w' => e = .returned (.bool true) ∧ ∃ m, w' = w.drewN m := by
  go_enter Tryd.func28, Tryd.ntmps28
  go_wp2_with fail
  go_loopw [13] (fun iv wr => ∃ k : Nat, k ≤ n ∧ iv = .int .i64 k ∧ ∃ m, wr = w.drewN m) (fun iv _ => n - (intOf iv).toNat)
  case atStart => exact ⟨0, Nat.zero_le _, rfl, 0, rfl⟩
  case round =>
    obtain ⟨k, hk, rfl, m, rfl⟩ := hrel
    by_cases hlt : k < n
    · obtain ⟨ad, rfl, h1⟩ := hA.at_ (k : Int) (by omega) (by omega)
      obtain ⟨bd, rfl, h2⟩ := hB.at_ (k : Int) (by omega) (by omega)
      rw [Int.toNat_natCast] at h1 h2
      obtain ⟨x, hx⟩ : ∃ x, rdOf 0 xs (k : Int) = x := ⟨_, rfl⟩
      rw [hx] at h1 h2
      clear hx
      have t24 : (x != x) = false := by simp
      have p9 : (k : Int) + 1 ≤ 9223372036854775807 := by have := hA.2.1; omega
      go_wp2
      go_quiet (fail)
      go_wp2
      exact ⟨⟨k + 1, by omega, by simp, _, rfl⟩, by simp [intOf]; omega⟩
    · obtain rfl : k = n := by omega
      go_wp2
      go_ret
      exact ⟨rfl, m, rfl⟩

theorem eachR_snoc (l : List (List UInt8)) (t : List UInt8) (vs : List Int) (h : eachR l = .fits vs) : eachR (l ++ [t]) = match spanR t with | .fit v => .fits (vs ++ [v]) | .wrong => .bad 2 | .opn => .bad 0 := by
  induction l generalizing vs with
  | nil => cases h; simp only [List.nil_append, eachR]; split <;> simp_all
  | cons u r ih =>
    rw [eachR] at h
    rw [List.cons_append, eachR]
    split at h
    · rename_i v hv
      split at h
      · rename_i ws hws
        cases h
        rw [ih ws hws]
        cases spanR t <;> rfl
      · cases h
    · cases h
    · cases h
theorem eachR_more (l r : List (List UInt8)) (c : Int) (h : eachR l = .bad c) : eachR (l ++ r) = .bad c := by
  induction l with
  | nil => cases h
  | cons u l ih =>
    rw [eachR] at h
    rw [List.cons_append, eachR]
    split at h
    · rename_i v hv
      split at h
      · cases h
      · rename_i c' hc
        cases h
        rw [ih hc]
    · cases h; rfl
    · cases h; rfl

def EachEnd (l : List (List UInt8)) (w : World) (e : Ending) (w' : World) : Prop :=
  ∃ (v : Value) (k : Int), e = .returned (.tuple #[v, .int .i64 k]) ∧ Below w.heap.size w w' ∧ ((∃ vs : List Int, eachR l = .fits vs ∧ k = 1 ∧ w'.ownsRow w.heap.size 2 1 v vs.length (encs i64 vs)) ∨
    ((k = 0 ∨ k = 2) ∧ eachR l = .bad k ∧ v = .slice none 0 0))

set_option maxRecDepth 100000 in
theorem each_any (A : Option Addr) (cap : Nat) (L : List ByteArray) (w : World) (hr : ReadsOf Value.string ByteArray.empty w A L.length L) (hn : L.length ≤ 4294967296) (hl : ∀ s ∈ L, s.size ≤ 2147483647) :
    Calls Tryd.prog 29 #[.slice A L.length cap, .func (.func 7) #[] #[]] w (EachEnd (L.map bl) w) := by
  have HR := Lib.hid hr
  have HL := Lib.hid hl
  clear hr hl
  go_enter Tryd.func29, Tryd.ntmps29
  go_wp2_with fail
  go_loopw [6, 14] (fun ov iv wr => ∃ (k : Nat) (vs : List Int), k ≤ L.length ∧ vs.length = k ∧ iv = .int .i64 k ∧ wr.ownsRow w.heap.size 2 1 ov vs.length (encs i64 vs) ∧ Below w.heap.size w wr ∧ Hid (eachR ((L.take k).map bl) = .fits vs)) (fun _ iv _ => L.length - (intOf iv).toNat)
  case atStart => exact ⟨0, [], Nat.zero_le _, rfl, rfl, own_lit_of (enc := i64) w w.heap.size 2 [] (Nat.le_refl _) (by simp), (Below.refl _ _).alloc (Nat.le_refl _) _, rfl⟩
  case round =>
    obtain ⟨k, vs, hk, hvl, rfl, hown, hb, H⟩ := hrel
    by_cases hlt : k < L.length
    · have p1 : decide ((k : Int) < (L.length : Int)) = true := by simp; omega
      obtain ⟨ad, rfl, h1⟩ := (HR.out.below hb).at_ (k : Int) (by omega) (by omega)
      rw [Int.toNat_natCast, Cl.rd_at L k hlt] at h1
      have hsnoc := eachR_snoc _ (bl L[k]) vs H.out
      rw [← List.map_singleton, ← List.map_append, ← List.take_succ_eq_append_getElem hlt] at hsnoc
      have hmore := eachR_more ((L.take (k + 1)).map bl) ((L.drop (k + 1)).map bl)
      rw [← List.map_append, List.take_append_drop] at hmore
      have hss : L[k].size ≤ 2147483647 := HL.out _ (List.getElem_mem hlt)
      obtain ⟨s, hs⟩ : ∃ s, L[k] = s := ⟨_, rfl⟩
      rw [hs] at h1 hsnoc hss
      have Hsnoc := Lib.hid hsnoc
      have Hmore := Lib.hid hmore
      clear hs hsnoc hmore H
      go_wp2_with fail
      refine (Pt.span_any s _ hss).mono ?_
      rintro e w3 ⟨n3, v, kk, rfl, rfl, ⟨hR, rfl, rfl⟩ | ⟨hR, rfl, rfl⟩ | ⟨hR, rfl⟩⟩
      · have hbad : eachR (L.map bl) = .bad 2 := Hmore.out _ (by have := Hsnoc.out; rw [hR] at this; exact this)
        have HBAD := Lib.hid hbad
        clear hbad hR
        go_wp2
        go_ret2
        exact ⟨_, 2, rfl, below_drewN hb _, .inr ⟨.inr rfl, HBAD.out, rfl⟩⟩
      · have hbad : eachR (L.map bl) = .bad 0 := Hmore.out _ (by have := Hsnoc.out; rw [hR] at this; exact this)
        have HBAD := Lib.hid hbad
        clear hbad hR
        go_wp2
        go_ret2
        exact ⟨_, 0, rfl, below_drewN hb _, .inr ⟨.inl rfl, HBAD.out, rfl⟩⟩
      · have hfit : Hid (eachR ((L.take (k + 1)).map bl) = .fits (vs ++ [v])) := by have := Hsnoc.out; rw [hR] at this; exact this
        clear hR
        go_wp2_with (at_builtin; refine print_append_of i64 w.heap.size rfl (.tmp 27) (.tmp 29) 33 2 (.int .i64 0) 8 rfl Tryd.underlying33 info2 rfl (by omega) _ vs _ rfl rfl rfl hown (below_drewN hb _) hb.size (by omega) ?_; intro v1 w1 ho1 hb1 hg1 _)
        exact ⟨⟨k + 1, vs ++ [v], by omega, by simp; omega, by simp, ho1, hb1, hfit⟩, by simp [intOf]; omega⟩
    · obtain rfl : k = L.length := by omega
      have p1 : decide ((L.length : Int) < (L.length : Int)) = false := by simp
      have hfin : Hid (eachR (L.map bl) = .fits vs) := by have := H.out; rwa [List.take_length] at this
      go_wp2
      go_ret2
      exact ⟨_, 1, rfl, hb, .inl ⟨vs, hfin.out, rfl, hown⟩⟩

set_option maxRecDepth 100000 in
theorem cuts_any (w : World) : Calls Tryd.prog 15 #[.func (.func 7) #[] #[]] w fun e w' => e = .returned (.func (.func 30) #[] #[.pointer (some ⟨w.heap.size, 0, none⟩)]) ∧ Below w.heap.size w w' ∧ w'.cell? ⟨w.heap.size, 0, none⟩ = some (.func (.func 7) #[] #[]) := by
  go_enter Tryd.func15, Tryd.ntmps15
  go_wp2
  go_ret
  refine ⟨rfl, (Below.refl _ _).alloc (Nat.le_refl _) _, ?_⟩
  rw [blk_cell (heap_alloc_new w _)]
  rfl

set_option maxRecDepth 100000 in
theorem cut_any (s : ByteArray) (B : Nat) (w : World) (hs : s.size ≤ 2147483647) (hc : w.cell? ⟨B, 0, none⟩ = some (.func (.func 7) #[] #[])) :
    Calls Tryd.prog 30 #[.string s, .pointer (some ⟨B, 0, none⟩)] w (EachEnd (commas [] (bl s)) w) := by
  have hp := fun W => parts_any s W hs
  have hcl : (commas [] (bl s)).length ≤ s.size + 1 := by rw [← bl_len]; exact commas_len _ _
  have hcs : ∀ x ∈ commas [] (bl s), x.length ≤ s.size := fun x hx => by
    have := commas_small (bl s) [] x hx
    rw [bl_len] at this
    simpa using this
  have HCL := Lib.hid hcl
  have HCS := Lib.hid hcs
  clear hcl hcs
  go_enter Tryd.func30, Tryd.ntmps30
  go_wp2_with fail
  go_region_held3 (fun w' => w'.cell? ⟨B, 0, none⟩ = some (.func (.func 7) #[] #[])) (first | exact hc | exact pw_cell_below hb5 hc | exact pw_cell_below hb6 (pw_cell_below hb5 hc))
    (first
      | (go_at_call 31; refine (hp _).mono ?_; rintro e w4 ⟨v, L, rfl, hL, hown, hb5⟩; obtain ⟨A, c, rfl, hcap, hrd⟩ := own_reads_of_le (d := ByteArray.empty) hown)
      | (go_at_call 29; refine (each_any A c L _ hrd (by have := HCL.out; rw [← hL, List.length_map] at this; omega) (fun x hx => by have := HCS.out (bl x) (by rw [← hL]; exact List.mem_map_of_mem hx); rw [bl_len] at this; omega)).mono ?_; rintro e w5 ⟨v, k, rfl, hb6, hE⟩))
  go_wp2
  go_ret2
  rw [hL] at hE
  have hb7 : Below w.heap.size w w5 := ((below_drew1 (Below.refl _ _)).trans hb5).trans (hb6.mono hb5.size)
  refine ⟨v, k, rfl, hb7, ?_⟩
  rcases hE with ⟨vs, h1, h2, h3⟩ | h
  · exact .inl ⟨vs, h1, h2, own_weaken h3 hb5.size⟩
  · exact .inr h
end Go.Proofs.YtjkmidohcidkiaaDoor.Li
