/- A text's parts between its commas, in plain Lean; and the walks of spec.Parts, pflag.zzIndex and pflag.zzSplit, which give them. -/
import Derived.Test.YtjkmidohcidkiaaDoorValue
import Derived.Test.YtjkmidohcidkiaaDoorRun
namespace Go.Proofs.YtjkmidohcidkiaaDoor.Li
open Go.RowKit Go.Proofs.YtjkmidohcidkiaaDoorW.PrintWords Go.Proofs.YtjkmidohcidkiaaDoor.Sp Go.Proofs.YtjkmidohcidkiaaDoor.Fmt

theorem info9 : (Tryd.prog.info? 9).map (fun i => (i.zero, i.size, i.bytes)) = some (some (.string ⟨#[]⟩), 1, 16) := by kernel_rfl

/-- What a cut gives: an owned row of texts that are the parts. -/
def CutEnd (s : ByteArray) (w : World) (e : Ending) (w' : World) : Prop :=
  ∃ (v : Value) (L : List ByteArray), e = .returned v ∧ L.map bl = commas [] (bl s) ∧ w'.ownsRow w.heap.size 9 1 v L.length (encs Value.string L) ∧ Below w.heap.size w w'

theorem slice_run (s : ByteArray) (i j : Nat) (hij : i ≤ j) (hj : j ≤ s.size) (W : World) :
    (Instr.slice 9 (.string s) (some (.int .i64 (i : Int))) (some (.int .i64 (j : Int))) none).run Tryd.prog W = .ok (.string (s.extract i j)) W := by
  have h := run_slice_string (P := Tryd.prog) W 9 s .i64 .i64 (i : Int) (j : Int) Tryd.underlying9 (by omega) (by omega) (by omega)
  rwa [Int.toNat_natCast, Int.toNat_natCast] at h

set_option maxRecDepth 100000 in
theorem parts_any (s : ByteArray) (w : World) (hs : s.size ≤ 2147483647) : Calls Tryd.prog 31 #[.string s] w (CutEnd s w) := by
  go_enter Tryd.func31, Tryd.ntmps31
  go_wp2_with fail
  go_loopw [3, 4, 9] (fun ov fv iv wr => ∃ (f k : Nat) (L : List ByteArray), k ≤ s.size ∧ f ≤ k ∧ iv = .int .i64 k ∧ fv = .int .i64 f ∧ wr.ownsRow w.heap.size 9 1 ov L.length (encs Value.string L) ∧ Below w.heap.size w wr ∧ L.length ≤ k ∧ Hid (L.map bl ++ commas (((bl s).take k).drop f) ((bl s).drop k) = commas [] (bl s))) (fun _ _ iv _ => s.size - (intOf iv).toNat)
  case atStart => exact ⟨0, 0, [], Nat.zero_le _, Nat.le_refl _, rfl, rfl, own_lit_of (enc := Value.string) w w.heap.size 9 [] (Nat.le_refl _) (by simp), (Below.refl _ _).alloc (Nat.le_refl _) _, Nat.le_refl _, rfl⟩
  case round =>
    obtain ⟨f, k, L, hk, hf, rfl, rfl, hown, hb, hL, H⟩ := hrel
    by_cases hlt : k < s.size
    · have p1 : decide ((k : Int) < (s.size : Int)) = true := by simp; omega
      have hstep := commas_at (bl s) f k hf (by rw [bl_len]; exact hlt)
      rw [bl_at s k hlt] at hstep
      by_cases hc : s[k] = 44
      · have t15 : ((s[k].toNat : Int) == 44) = true := by rw [hc]; rfl
        have hsl := slice_run s f k hf hk
        rw [if_pos hc] at hstep
        have H2 : Hid ((L ++ [s.extract f k]).map bl ++ commas (((bl s).take (k + 1)).drop (k + 1)) ((bl s).drop (k + 1)) = commas [] (bl s)) := by
          show _ = _
          rw [← H.out, hstep, List.drop_of_length_le (by rw [List.length_take]; omega), List.map_append, List.append_assoc]
          simp [bl_extract]
        clear hstep hc H
        go_wp2_with (at_builtin; refine print_append_of Value.string w.heap.size rfl (.tmp 16) (.tmp 21) 22 9 (.string ⟨#[]⟩) 16 rfl Tryd.underlying22 info9 rfl (by omega) _ L _ rfl rfl rfl hown hb hb.size (by omega) ?_; intro v1 w1 ho1 hb1 hg1 _)
        exact ⟨⟨k + 1, k + 1, L ++ [s.extract f k], by omega, Nat.le_refl _, by simp, by simp, ho1, hb1, by simp; omega, H2⟩, by simp [intOf]; omega⟩
      · have t15 : ((s[k].toNat : Int) == 44) = false := by
          simp
          intro h
          exact hc (by apply UInt8.toNat_inj.1; simpa using (show s[k].toNat = 44 by omega))
        rw [if_neg hc] at hstep
        have H2 : Hid (L.map bl ++ commas (((bl s).take (k + 1)).drop f) ((bl s).drop (k + 1)) = commas [] (bl s)) := by
          show _ = _
          rw [← H.out, hstep]
        clear hstep hc H
        go_wp2
        exact ⟨⟨f, k + 1, L, by omega, by omega, by simp, rfl, hown, hb, by omega, H2⟩, by simp [intOf]; omega⟩
    · obtain rfl : k = s.size := by omega
      have hsl := slice_run s f s.size hf (Nat.le_refl _)
      have H2 : (L ++ [s.extract f s.size]).map bl = commas [] (bl s) := by
        rw [← H.out, show (bl s).drop s.size = [] from List.drop_of_length_le (by rw [bl_len]; omega), commas]
        simp [bl_extract]
      have H3 := Lib.hid H2
      clear H H2
      go_wp2_with (at_builtin; refine print_append_of Value.string w.heap.size rfl (.tmp 26) (.tmp 30) 22 9 (.string ⟨#[]⟩) 16 rfl Tryd.underlying22 info9 rfl (by omega) _ L _ rfl rfl rfl hown hb hb.size (by omega) ?_; intro v1 w1 ho1 hb1 hg1 _)
      go_ret
      exact ⟨v1, _, rfl, H3.out, ho1, hb1⟩

/-- zzIndex with a comma: the first comma's place, or -1. -/
def IndexEnd (s : ByteArray) (w : World) (e : Ending) (w' : World) : Prop :=
  (∃ n, w' = w.drewN n) ∧ ((∃ (i : Nat) (h : i < s.size), e = .returned (.int .i64 i) ∧ s[i] = 44 ∧ (44 : UInt8) ∉ (bl s).take i) ∨ (e = .returned (.int .i64 (-1)) ∧ (44 : UInt8) ∉ bl s))

theorem one_at (s : ByteArray) (k : Nat) (hk : k < s.size) : bl (s.extract k (k + 1)) = [s[k]] := by
  rw [bl_extract, List.take_succ_eq_append_getElem (by rw [bl_len]; exact hk), List.drop_append_of_le_length (by rw [List.length_take, bl_len]; omega), List.drop_of_length_le (by rw [List.length_take]; omega)]
  rfl

set_option maxRecDepth 100000 in
theorem index_any (s : ByteArray) (w : World) (hs : s.size ≤ 2147483647) : Calls Tryd.prog 46 #[.string s, .string ⟨#[44]⟩] w (IndexEnd s w) := by
  go_enter Tryd.func46, Tryd.ntmps46
  go_wp2_with fail
  go_loopw [5] (fun iv wr => ∃ k : Nat, k ≤ s.size ∧ iv = .int .i64 k ∧ (∃ n, wr = w.drewN n) ∧ (44 : UInt8) ∉ (bl s).take k) (fun iv _ => s.size - (intOf iv).toNat)
  case atStart => exact ⟨0, Nat.zero_le _, rfl, ⟨0, rfl⟩, by simp⟩
  case round =>
    obtain ⟨k, hk, rfl, ⟨n, rfl⟩, hno⟩ := hrel
    have Hno := Lib.hid hno
    clear hno
    by_cases hlt : k < s.size
    · have p1 : decide ((k : Int) + 1 ≤ (s.size : Int)) = true := by simp; omega
      have hsl : ∀ W : World, (Instr.slice 9 (.string s) (some (.int .i64 (k : Int))) (some (.int .i64 ((k : Int) + 1))) none).run Tryd.prog W = .ok (.string (s.extract k (k + 1))) W := fun W => by
        have := slice_run s k (k + 1) (by omega) hlt W
        simpa using this
      have ho := one_at s k hlt
      by_cases hc : s[k] = 44
      · have t : ((s.extract k (k + 1)).toList == [44]) = true := by rw [bl_toList, ho, hc]; rfl
        clear ho
        go_wp2
        go_ret
        exact ⟨⟨n, rfl⟩, .inl ⟨k, hlt, rfl, hc, Hno.out⟩⟩
      · have t : ((s.extract k (k + 1)).toList == [44]) = false := by rw [bl_toList, ho]; simpa using hc
        have hno2 : Hid ((44 : UInt8) ∉ (bl s).take (k + 1)) := by
          show _ ∉ _
          rw [List.take_succ_eq_append_getElem (by rw [bl_len]; exact hlt)]
          intro h
          rcases List.mem_append.1 h with h | h
          · exact Hno.out h
          · simp at h; exact hc h.symm
        clear ho hc
        go_wp2
        exact ⟨⟨k + 1, by omega, by simp, ⟨n, rfl⟩, hno2.out⟩, by simp [intOf]; omega⟩
    · obtain rfl : k = s.size := by omega
      have p1 : decide ((s.size : Int) + 1 ≤ (s.size : Int)) = false := by simp; omega
      have hn : Hid ((44 : UInt8) ∉ bl s) := by
        have := Hno.out
        rwa [List.take_of_length_le (by rw [bl_len]; omega)] at this
      go_wp2
      go_ret
      exact ⟨⟨n, rfl⟩, .inr ⟨rfl, hn.out⟩⟩

set_option maxRecDepth 100000 in
theorem split_any (s : ByteArray) (w : World) (hs : s.size ≤ 2147483647) : Calls Tryd.prog 39 #[.string s, .string ⟨#[44]⟩] w (CutEnd s w) := by
  go_enter Tryd.func39, Tryd.ntmps39
  go_wp2_with fail
  go_loopw [5, 0] (fun ov sv wr => ∃ (r : ByteArray) (L : List ByteArray), sv = .string r ∧ r.size ≤ s.size ∧ wr.ownsRow w.heap.size 9 1 ov L.length (encs Value.string L) ∧ Below w.heap.size w wr ∧ L.length + r.size ≤ s.size ∧ Hid (L.map bl ++ commas [] (bl r) = commas [] (bl s))) (fun _ sv _ => match sv with | .string r => r.size | _ => 0)
  case atStart => exact ⟨s, [], rfl, Nat.le_refl _, World.ownsRow_nil _ _ _ _, Below.refl _ _, by simp, rfl⟩
  case round =>
    obtain ⟨r, L, rfl, hr, hown, hb, hL, H⟩ := hrel
    go_wp2_with fail
    refine (index_any r _ (by omega)).mono ?_
    rintro e w2 ⟨⟨n, rfl⟩, ⟨i, hi, rfl, hc, hno⟩ | ⟨rfl, hno⟩⟩
    · have hsl := slice_run r 0 i (by omega) (by omega)
      have hsl2 := slice_run r (i + 1) r.size (by omega) (by omega)
      have H2 : Hid ((L ++ [r.extract 0 i]).map bl ++ commas [] (bl (r.extract (i + 1) r.size)) = commas [] (bl s)) := by
        show _ = _
        rw [← H.out]
        have hh := commas_at (bl r) 0 i (Nat.zero_le _) (by rw [bl_len]; exact hi)
        rw [bl_at r i hi, if_pos hc] at hh
        have h2 := commas_skip ((bl r).take i) [] ((bl r).drop i) hno
        rw [List.take_append_drop, List.nil_append] at h2
        rw [List.drop_zero] at hh
        rw [h2, hh, bl_from, List.map_append, List.append_assoc]
        simp [bl_extract]
      have hsz : (r.extract (i + 1) r.size).size = r.size - (i + 1) := size_from r (i + 1)
      clear H hc hno
      go_wp2_with (at_builtin; refine print_append_of Value.string w.heap.size rfl (.tmp 46) (.tmp 50) 22 9 (.string ⟨#[]⟩) 16 rfl Tryd.underlying22 info9 rfl (by omega) _ L _ rfl rfl rfl hown (below_drewN hb _) hb.size (by omega) ?_; intro v1 w1 ho1 hb1 hg1 _)
      exact ⟨⟨r.extract (i + 1) r.size, L ++ [r.extract 0 i], by simp, by omega, ho1, hb1, by simp; omega, H2⟩, by simp; omega⟩
    · have H2 : (L ++ [r]).map bl = commas [] (bl s) := by
        rw [← H.out, commas_none _ _ hno]
        simp
      have H3 := Lib.hid H2
      clear H H2 hno
      go_wp2_with (at_builtin; refine print_append_of Value.string w.heap.size rfl (.tmp 42) (.tmp 44) 22 9 (.string ⟨#[]⟩) 16 rfl Tryd.underlying22 info9 rfl (by omega) _ L _ rfl rfl rfl hown (below_drewN hb _) hb.size (by omega) ?_; intro v1 w1 ho1 hb1 hg1 _)
      go_ret
      exact ⟨v1, _, rfl, H3.out, ho1, hb1⟩
end Go.Proofs.YtjkmidohcidkiaaDoor.Li
