/- The walks of the law FnCastPointer: a pointer to an int, or to a string, is cast as what it points to. -/
import Derived.Test.YtigfkbeiaphjfaaGreatDoorSame
import Derived.Test.YtigfkbeiaphjfaaGreatDoorNum
import Derived.Test.YtigfkbeiaphjfaaGreatDoorShelf
import Derived.Lib.AppendIntMem
namespace Go.Proofs.YtigfkbeiaphjfaaGreatDoor.Ca
open Go.RowKit Go.Sort

abbrev Tab (B : Nat) (w : World) : Prop := Lib.TabBelow Tryz.prog B w "internal/strconv.uint64pow10" .u64 Lib.pow10Tab
theorem grow_b (w : World) (k : Nat) (os : Array Obj) : Below w.heap.size w (grow (w.drewN k) os) :=
  ⟨rfl, rfl, rfl, by show _ ≤ (w.heap ++ os).size; simp, fun i hi => by
    show (w.heap ++ os)[i]? = _
    rw [Array.getElem?_append_left hi]⟩

set_option maxRecDepth 100000 in
theorem value_pint (n : Int) (w : World) : Calls Tryz.prog 16 #[anyV 25 n 0 0 ⟨#[]⟩] w fun e w' => ∃ g, e = .returned (.iface 94 (.pointer (some ⟨g, 0, none⟩))) ∧ Below w.heap.size w w' ∧ w'.cell? ⟨g, 0, none⟩ = some (.int .i64 n) := by
  unfold anyV
  go_enter Tryz.func16, Tryz.ntmps16
  go_wp2
  go_ret
  refine ⟨_, rfl, (al_b _ _).trans ((al_b _ _).mono (by simp)), ?_⟩
  simp

set_option maxRecDepth 100000 in
theorem value_pstr (s : ByteArray) (w : World) : Calls Tryz.prog 16 #[anyV 26 0 0 0 s] w fun e w' => ∃ g, e = .returned (.iface 95 (.pointer (some ⟨g, 0, none⟩))) ∧ Below w.heap.size w w' ∧ w'.cell? ⟨g, 0, none⟩ = some (.string s) := by
  unfold anyV
  go_enter Tryz.func16, Tryz.ntmps16
  go_wp2
  go_ret
  refine ⟨_, rfl, (al_b _ _).trans ((al_b _ _).mono (by simp)), ?_⟩
  simp

set_option maxRecDepth 100000 in
theorem indirect_int (g : Nat) (n : Int) (w : World) (hc : w.cell? ⟨g, 0, none⟩ = some (.int .i64 n)) : Calls Tryz.prog 29 #[.iface 94 (.pointer (some ⟨g, 0, none⟩))] w fun e w' => e = .returned (.tuple #[.iface 3 (.int .i64 n), .bool true]) ∧ w' = w := by
  have h1 := as94_94 (.pointer (some ⟨g, 0, none⟩))
  go_enter Tryz.func29, Tryz.ntmps29
  go_wp2
  go_ret2
  exact ⟨rfl, rfl⟩
set_option maxRecDepth 100000 in
theorem indirect_str (g : Nat) (s : ByteArray) (w : World) (hc : w.cell? ⟨g, 0, none⟩ = some (.string s)) : Calls Tryz.prog 29 #[.iface 95 (.pointer (some ⟨g, 0, none⟩))] w fun e w' => e = .returned (.tuple #[.iface 9 (.string s), .bool true]) ∧ w' = w := by
  have h1 := as95_94 (.pointer (some ⟨g, 0, none⟩))
  have h2 := as95_95 (.pointer (some ⟨g, 0, none⟩))
  go_enter Tryz.func29, Tryz.ntmps29
  go_wp2
  go_ret2
  exact ⟨rfl, rfl⟩

set_option maxRecDepth 100000 in
theorem toNumber_pint (g : Nat) (n : Int) (w : World) (hc : w.cell? ⟨g, 0, none⟩ = some (.int .i64 n)) : Calls Tryz.prog 63 #[.iface 94 (.pointer (some ⟨g, 0, none⟩))] w fun e w' => e = .returned (.tuple #[.int .i64 n, .bool true]) ∧ w' = w := by
  have h1 := as3_3 (.int .i64 n)
  go_enter Tryz.func63, Tryz.ntmps63
  go_wp2_with fail
  refine (indirect_int g n w hc).mono ?_
  rintro e w1 ⟨rfl, rfl⟩
  go_wp2
  go_ret2
  exact ⟨rfl, rfl⟩
set_option maxRecDepth 100000 in
theorem toNumberE_pint (g : Nat) (n : Int) (f : Value) (w : World) (hc : w.cell? ⟨g, 0, none⟩ = some (.int .i64 n)) : Calls Tryz.prog 49 #[.iface 94 (.pointer (some ⟨g, 0, none⟩)), f] w fun e w' => e = .returned (.tuple #[.int .i64 n, .nilIface]) ∧ w' = w := by
  go_enter Tryz.func49, Tryz.ntmps49
  go_wp2_with fail
  refine (toNumber_pint g n w hc).mono ?_
  rintro e w1 ⟨rfl, rfl⟩
  go_wp2
  go_ret2
  exact ⟨rfl, rfl⟩
set_option maxRecDepth 100000 in
theorem ToIntE_pint (g : Nat) (n : Int) (w : World) (hc : w.cell? ⟨g, 0, none⟩ = some (.int .i64 n)) : Calls Tryz.prog 18 #[.iface 94 (.pointer (some ⟨g, 0, none⟩))] w fun e w' => e = .returned (.tuple #[.int .i64 n, .nilIface]) ∧ w' = w := by
  go_enter Tryz.func18, Tryz.ntmps18
  go_wp2_with fail
  refine (toNumberE_pint g n _ w hc).mono ?_
  rintro e w1 ⟨rfl, rfl⟩
  go_wp2
  go_ret2
  exact ⟨rfl, rfl⟩
set_option maxRecDepth 100000 in
theorem ToInt_pint (n : Int) (w : World) : Calls Tryz.prog 9 #[anyV 25 n 0 0 ⟨#[]⟩] w fun e w' => e = .returned (.tuple #[.int .i64 n, .bool true]) ∧ Below w.heap.size w w' := by
  have hv := fun W => value_pint n W
  unfold anyV at hv ⊢
  go_enter Tryz.func9, Tryz.ntmps9
  go_wp2_with fail
  refine (hv _).mono ?_
  rintro e w1 ⟨g, rfl, hb1, hc⟩
  go_wp2_with fail
  refine (ToIntE_pint g n _ hc).mono ?_
  rintro e w2 ⟨rfl, rfl⟩
  go_wp2_with fail
  go_quiet (fail)
  go_wp2
  go_ret2
  exact ⟨rfl, bdr (((Below.refl _ w).alloc (Nat.le_refl _) _).trans (hb1.mono (by simp))) _⟩

set_option maxRecDepth 100000 in
theorem tostr_int (n : Int) (h0 : -9223372036854775808 ≤ n) (h1 : n ≤ 9223372036854775807) (w : World) (B : Nat) (ht : Tab B w) : Calls Tryz.prog 15 #[.iface 3 (.int .i64 n)] w fun e w' => e = .returned (.tuple #[.string (ba (Lib.itoa n)), .nilIface]) ∧ Below w.heap.size w w' := by
  have a1 := as3_9 (.int .i64 n)
  have a2 := as3_4 (.int .i64 n)
  have a3 := as3_23 (.int .i64 n)
  have a4 := as3_60 (.int .i64 n)
  have a5 := as3_3 (.int .i64 n)
  go_enter Tryz.func15, Tryz.ntmps15
  go_wp2_with fail
  refine (Tryz.strconv_Itoa n h0 h1 w ht.here).mono ?_
  rintro e w1 ⟨rfl, k, os, rfl⟩
  have hb := grow_b w k os
  go_wp2
  go_ret2
  exact ⟨rfl, hb⟩

set_option maxRecDepth 100000 in
theorem tostr_pint (g : Nat) (n : Int) (h0 : -9223372036854775808 ≤ n) (h1 : n ≤ 9223372036854775807) (w : World) (B : Nat) (ht : Tab B w) (hc : w.cell? ⟨g, 0, none⟩ = some (.int .i64 n)) :
    Calls Tryz.prog 15 #[.iface 94 (.pointer (some ⟨g, 0, none⟩))] w fun e w' => e = .returned (.tuple #[.string (ba (Lib.itoa n)), .nilIface]) ∧ Below w.heap.size w w' := by
  have m9 := as94_9 (.pointer (some ⟨g, 0, none⟩))
  have m4 := as94_4 (.pointer (some ⟨g, 0, none⟩))
  have m23 := as94_23 (.pointer (some ⟨g, 0, none⟩))
  have m60 := as94_60 (.pointer (some ⟨g, 0, none⟩))
  have m3 := as94_3 (.pointer (some ⟨g, 0, none⟩))
  have m62 := as94_62 (.pointer (some ⟨g, 0, none⟩))
  have m64 := as94_64 (.pointer (some ⟨g, 0, none⟩))
  have m21 := as94_21 (.pointer (some ⟨g, 0, none⟩))
  have m2 := as94_2 (.pointer (some ⟨g, 0, none⟩))
  have m53 := as94_53 (.pointer (some ⟨g, 0, none⟩))
  have m5 := as94_5 (.pointer (some ⟨g, 0, none⟩))
  have m54 := as94_54 (.pointer (some ⟨g, 0, none⟩))
  have m55 := as94_55 (.pointer (some ⟨g, 0, none⟩))
  have m22 := as94_22 (.pointer (some ⟨g, 0, none⟩))
  have m56 := as94_56 (.pointer (some ⟨g, 0, none⟩))
  have m67 := as94_67 (.pointer (some ⟨g, 0, none⟩))
  have m45 := as94_45 (.pointer (some ⟨g, 0, none⟩))
  go_enter Tryz.func15, Tryz.ntmps15
  go_wp2_with fail
  refine (indirect_int g n w hc).mono ?_
  rintro e w1 ⟨rfl, rfl⟩
  go_wp2_with fail
  refine (tostr_int n h0 h1 _ B ht).mono ?_
  rintro e w2 ⟨rfl, hb⟩
  go_wp2
  go_ret2
  exact ⟨rfl, hb⟩
set_option maxRecDepth 100000 in
theorem tostr_pstr (g : Nat) (s : ByteArray) (w : World) (hc : w.cell? ⟨g, 0, none⟩ = some (.string s)) :
    Calls Tryz.prog 15 #[.iface 95 (.pointer (some ⟨g, 0, none⟩))] w fun e w' => e = .returned (.tuple #[.string s, .nilIface]) ∧ w' = w := by
  have m9 := as95_9 (.pointer (some ⟨g, 0, none⟩))
  have m4 := as95_4 (.pointer (some ⟨g, 0, none⟩))
  have m23 := as95_23 (.pointer (some ⟨g, 0, none⟩))
  have m60 := as95_60 (.pointer (some ⟨g, 0, none⟩))
  have m3 := as95_3 (.pointer (some ⟨g, 0, none⟩))
  have m62 := as95_62 (.pointer (some ⟨g, 0, none⟩))
  have m64 := as95_64 (.pointer (some ⟨g, 0, none⟩))
  have m21 := as95_21 (.pointer (some ⟨g, 0, none⟩))
  have m2 := as95_2 (.pointer (some ⟨g, 0, none⟩))
  have m53 := as95_53 (.pointer (some ⟨g, 0, none⟩))
  have m5 := as95_5 (.pointer (some ⟨g, 0, none⟩))
  have m54 := as95_54 (.pointer (some ⟨g, 0, none⟩))
  have m55 := as95_55 (.pointer (some ⟨g, 0, none⟩))
  have m22 := as95_22 (.pointer (some ⟨g, 0, none⟩))
  have m56 := as95_56 (.pointer (some ⟨g, 0, none⟩))
  have m67 := as95_67 (.pointer (some ⟨g, 0, none⟩))
  have m45 := as95_45 (.pointer (some ⟨g, 0, none⟩))
  go_enter Tryz.func15, Tryz.ntmps15
  go_wp2_with fail
  refine (indirect_str g s w hc).mono ?_
  rintro e w1 ⟨rfl, rfl⟩
  go_wp2_with fail
  refine (tostr_str s _).mono ?_
  rintro e w2 ⟨rfl, rfl⟩
  go_wp2
  go_ret2
  exact ⟨rfl, rfl⟩

set_option maxRecDepth 100000 in
theorem ToString_pint (n : Int) (h0 : -9223372036854775808 ≤ n) (h1 : n ≤ 9223372036854775807) (w : World) (B : Nat) (ht : Tab B w) (hB : B ≤ w.heap.size) : Calls Tryz.prog 7 #[anyV 25 n 0 0 ⟨#[]⟩] w fun e w' => e = .returned (.tuple #[.string (ba (Lib.itoa n)), .bool true]) ∧ Below w.heap.size w w' := by
  have hv := fun W => value_pint n W
  unfold anyV at hv ⊢
  go_enter Tryz.func7, Tryz.ntmps7
  go_wp2_with fail
  refine (hv _).mono ?_
  rintro e w1 ⟨g, rfl, hb1, hc⟩
  have hbx : Below w.heap.size w w1 := ((Below.refl _ w).alloc (Nat.le_refl _) _).trans (hb1.mono (by simp))
  go_wp2_with fail
  refine (tostr_pint g n h0 h1 _ B (ht.on (hbx.mono hB)) hc).mono ?_
  rintro e w2 ⟨rfl, hb2⟩
  go_wp2_with fail
  go_quiet (fail)
  go_wp2
  go_ret2
  exact ⟨rfl, bdr (hbx.trans (hb2.mono hbx.size)) _⟩
set_option maxRecDepth 100000 in
theorem ToString_pstr (s : ByteArray) (w : World) : Calls Tryz.prog 7 #[anyV 26 0 0 0 s] w fun e w' => e = .returned (.tuple #[.string s, .bool true]) ∧ Below w.heap.size w w' := by
  have hv := fun W => value_pstr s W
  unfold anyV at hv ⊢
  go_enter Tryz.func7, Tryz.ntmps7
  go_wp2_with fail
  refine (hv _).mono ?_
  rintro e w1 ⟨g, rfl, hb1, hc⟩
  have hbx : Below w.heap.size w w1 := ((Below.refl _ w).alloc (Nat.le_refl _) _).trans (hb1.mono (by simp))
  go_wp2_with fail
  refine (tostr_pstr g s _ hc).mono ?_
  rintro e w2 ⟨rfl, rfl⟩
  go_wp2_with fail
  go_quiet (fail)
  go_wp2
  go_ret2
  exact ⟨rfl, bdr hbx _⟩

theorem field_S (k i u : Int) (f : Nat) (t : ByteArray) (W : World) : (Instr.field 27 (.agg #[.int .i64 k, .int .i64 i, .int .u64 u, .float .f64 f, .string t, .slice none 0 0, .slice none 0 0]) 4).run Tryz.prog W = .ok (.string t) W := by kernel_rfl

set_option maxRecDepth 100000 in
theorem FnCastPointer_any (n : Int) (h0 : -9223372036854775808 ≤ n) (h1 : n ≤ 9223372036854775807) (s : ByteArray) (w : World) (ht : Lib.TabIs Tryz.prog w "internal/strconv.uint64pow10" .u64 Lib.pow10Tab) :
    Calls Tryz.prog 4 #[.int .i64 n, .string s] w fun e w' => e = .returned (.bool true) ∧ Below w.heap.size w w' := by
  have HT := Lib.tabBelow_of_tabIs ht
  have hc := fun W => castText_any s W
  obtain ⟨t, htt⟩ : ∃ t, s.extract 0 (min s.size 400) = t := ⟨_, rfl⟩
  rw [htt] at hc
  have hi := fun W => ToInt_pint n W
  have hs := fun W => ToString_pstr t W
  obtain ⟨d, hd⟩ : ∃ d, ba (Lib.itoa n) = d := ⟨_, rfl⟩
  have hp := fun W hW hle => ToString_pint n h0 h1 W w.heap.size hW hle
  obtain ⟨k, hk⟩ := dec_int n h0 h1
  rw [hd] at hk hp
  have hdec := fun W => PFnCastPointer.spec_CastDecimal.calls k n d W hk
  have tt : (t.toList == t.toList) = true := by simp
  have td : (d.toList == d.toList) = true := by simp
  have tn : (n == n) = true := by simp
  have hfd := fun W => field_S 14 0 0 0 t W
  clear ht hk hd
  unfold anyV at hc hs hi hp
  by_cases hz : s.size ≤ 2147483647
  · have p1 : decide ((2147483647 : Int) < (s.size : Int)) = false := by simp; omega
    go_enter Tryz.func4, Tryz.ntmps4
    go_wp2_with fail
    refine (hc _).mono ?_
    rintro e w1 ⟨rfl, hb1⟩
    go_wp2_with fail
    refine (hi _).mono ?_
    rintro e w2 ⟨rfl, hb2⟩
    have hb12 : Below w.heap.size w w2 := hb1.trans (hb2.mono hb1.size)
    go_wp2_with fail
    refine (hs _).mono ?_
    rintro e w3 ⟨rfl, hb3⟩
    have hb13 : Below w.heap.size w w3 := hb12.trans (hb3.mono hb12.size)
    go_wp2_with fail
    refine (hp _ (HT.on hb13) hb13.size).mono ?_
    rintro e w4 ⟨rfl, hb4⟩
    have hb14 : Below w.heap.size w w4 := hb13.trans (hb4.mono hb13.size)
    go_wp2_with fail
    refine (hdec _).mono ?_
    rintro e w5 ⟨rfl, hb5⟩
    have hb15 : Below w.heap.size w w5 := hb14.trans (hb5.mono hb14.size)
    go_wp2
    go_ret
    exact ⟨rfl, hb15⟩
  · have p1 : decide ((2147483647 : Int) < (s.size : Int)) = true := by simp; omega
    go_enter Tryz.func4, Tryz.ntmps4
    go_wp2
    go_ret
    exact ⟨rfl, Below.refl _ _⟩
end Go.Proofs.YtigfkbeiaphjfaaGreatDoor.Ca
