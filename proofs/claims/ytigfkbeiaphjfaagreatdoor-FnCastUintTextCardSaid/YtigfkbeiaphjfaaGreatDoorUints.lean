/- The walks of cast's uints: a text of digits cast to each kind, each kind cast to its text. -/
import Derived.Test.YtigfkbeiaphjfaaGreatDoorAsserts2
import Derived.Test.YtigfkbeiaphjfaaGreatDoorParseU
import Derived.Test.YtigfkbeiaphjfaaGreatDoorFmt
namespace Go.Proofs.YtigfkbeiaphjfaaGreatDoor.Ca
open Go.RowKit Go.Sort

/-- A numeral: what strconv reads and writes of a uint. -/
structure NumText (s : ByteArray) (n : Nat) : Prop where
  digs : Digs s
  lt : n < 18446744073709551616
  how : (s = ⟨#[48]⟩ ∧ n = 0) ∨ (s[0]'digs.1 ≠ 48 ∧ valN s.data.toList = n)

set_option maxRecDepth 100000 in
theorem parse90 (s : ByteArray) (n : Nat) (h : NumText s n) (w : World) : Calls Tryz.prog 90 #[.string s, .int .i64 0, .int .i64 0] w fun e w' => e = .returned (.tuple #[.int .u64 (n : Nat), .nilIface]) ∧ Below w.heap.size w w' := by
  have hp : ∀ W : World, Calls Tryz.prog 114 #[.string s, .int .i64 0, .int .i64 0] W fun e w' => e = .returned (.tuple #[.int .u64 (n : Nat), .nilIface]) ∧ Below W.heap.size W w' := fun W => by
    obtain ⟨hd, hlt, ⟨rfl, rfl⟩ | ⟨h0, rfl⟩⟩ := h
    · exact parseUint_zero W
    · exact parseUint_in s hd h0 hlt W
  go_enter Tryz.func90, Tryz.ntmps90
  go_wp2_with fail
  refine (hp _).mono ?_
  rintro e w1 ⟨rfl, hb⟩
  go_wp2
  go_ret2
  exact ⟨rfl, hb⟩


theorem digs_ne {s : ByteArray} (h : Digs s) : s.toList.isEmpty = false := by
  rw [ByteArray.toList_eq]
  cases e : s.data.toList with
  | nil => have : s.data.toList.length = s.size := by rw [Array.length_toList]; rfl
           have := h.1
           rw [e] at *; simp at *; omega
  | cons a b => rfl

/-! ### U -/
set_option maxRecDepth 100000 in
theorem parse_U (s : ByteArray) (n : Nat) (h : NumText s n) (hn : n < 18446744073709551616) (w : World) : Calls Tryz.prog 75 #[.string s] w fun e w' => e = .returned (.tuple #[.int .u64 (n : Nat), .nilIface]) ∧ Below w.heap.size w w' := by
  go_enter Tryz.func75, Tryz.ntmps75
  go_wp2_with fail
  refine (trimDecimal_any s h.digs _).mono ?_
  rintro e w1 ⟨rfl, n1, rfl⟩
  go_wp2_with fail
  refine (trimLeft_any s h.digs _).mono ?_
  rintro e w2 ⟨rfl, hb2⟩
  go_wp2_with fail
  refine (parse90 s n h _).mono ?_
  rintro e w3 ⟨rfl, hb3⟩
  have hbe : Below w.heap.size w w3 := (bdr (Below.refl _ w) n1).trans ((hb2.mono (Nat.le_refl _)).trans (hb3.mono hb2.size))
  go_wp2
  go_ret2
  exact ⟨rfl, hbe⟩
set_option maxRecDepth 100000 in
theorem toUns_U (s : ByteArray) (w : World) : Calls Tryz.prog 95 #[.iface 9 (.string s)] w fun e w' => e = .returned (.tuple #[.int .u64 0, .bool true, .bool false]) ∧ w' = w := by
  have m5 := as9_5 (.string s)
  have m3 := as9_3 (.string s)
  have m62 := as9_62 (.string s)
  have m64 := as9_64 (.string s)
  have m21 := as9_21 (.string s)
  have m2 := as9_2 (.string s)
  have m53 := as9_53 (.string s)
  have m54 := as9_54 (.string s)
  have m55 := as9_55 (.string s)
  have m22 := as9_22 (.string s)
  have m60 := as9_60 (.string s)
  have m23 := as9_23 (.string s)
  have m4 := as9_4 (.string s)
  have m150 := as9_150 (.string s)
  have m151 := as9_151 (.string s)
  have m94 := as9_94 (.string s)
  have m95 := as9_95 (.string s)
  go_enter Tryz.func95, Tryz.ntmps95
  go_wp2
  go_ret3
  exact ⟨rfl, rfl⟩
set_option maxRecDepth 100000 in
theorem toUnsE_U (s : ByteArray) (n : Nat) (h : NumText s n) (hn : n < 18446744073709551616) (w : World) : Calls Tryz.prog 74 #[.iface 9 (.string s), .func (.func 75) #[] #[]] w fun e w' => e = .returned (.tuple #[.int .u64 (n : Nat), .nilIface]) ∧ Below w.heap.size w w' := by
  have hemp := digs_ne h.digs
  have m94 := as9_94 (.string s)
  have m95 := as9_95 (.string s)
  have m9 := as9_9 (.string s)
  go_enter Tryz.func74, Tryz.ntmps74
  go_wp2_with fail
  refine (toUns_U s _).mono ?_
  rintro e w1 ⟨rfl, rfl⟩
  go_wp2_with (first | (go_at_call 75; refine (parse_U s n h hn _).mono ?_; rintro e w2 ⟨rfl, hb⟩) | go_in)
  go_ret2
  exact ⟨rfl, hb⟩
set_option maxRecDepth 100000 in
theorem ToE_U (s : ByteArray) (n : Nat) (h : NumText s n) (hn : n < 18446744073709551616) (w : World) : Calls Tryz.prog 55 #[.iface 9 (.string s)] w fun e w' => e = .returned (.tuple #[.int .u64 (n : Nat), .nilIface]) ∧ Below w.heap.size w w' := by
  go_enter Tryz.func55, Tryz.ntmps55
  go_wp2_with fail
  refine (toUnsE_U s n h hn _).mono ?_
  rintro e w1 ⟨rfl, hb⟩
  go_wp2
  go_ret2
  exact ⟨rfl, hb⟩
set_option maxRecDepth 100000 in
theorem To_U (s : ByteArray) (n : Nat) (h : NumText s n) (hn : n < 18446744073709551616) (w : World) : Calls Tryz.prog 23 #[anyV 14 0 0 0 s] w fun e w' => e = .returned (.tuple #[.int .u64 (n : Nat), .bool true]) ∧ Below w.heap.size w w' := by
  have hv := fun W => value_str s W
  unfold anyV at hv ⊢
  go_enter Tryz.func23, Tryz.ntmps23
  go_wp2_with fail
  refine (hv _).mono ?_
  rintro e w1 ⟨rfl, hb1⟩
  have hbx : Below w.heap.size w w1 := ((Below.refl _ w).alloc (Nat.le_refl _) _).trans (hb1.mono (by simp))
  go_wp2_with fail
  refine (ToE_U s n h hn _).mono ?_
  rintro e w2 ⟨rfl, hb2⟩
  have hby := hbx.trans (hb2.mono hbx.size)
  go_wp2_with fail
  go_quiet (fail)
  go_wp2
  go_ret2
  exact ⟨rfl, bdr hby _⟩
set_option maxRecDepth 100000 in
theorem value_U (n : Nat) (hn : n < 18446744073709551616) (w : World) : Calls Tryz.prog 16 #[anyV 7 0 (n : Nat) 0 ⟨#[]⟩] w fun e w' => e = .returned (.iface 53 (.int .u64 (n : Nat))) ∧ Below w.heap.size w w' := by
  unfold anyV
  go_enter Tryz.func16, Tryz.ntmps16
  go_wp2
  go_ret
  exact ⟨rfl, al_b _ _⟩
set_option maxRecDepth 100000 in
theorem tostr_U (n : Nat) (hn : n < 18446744073709551616) (w : World) (B : Nat) (ht : Tab B w) : Calls Tryz.prog 15 #[.iface 53 (.int .u64 (n : Nat))] w fun e w' => e = .returned (.tuple #[.string (ba (Lib.decDigits n)), .nilIface]) ∧ Below w.heap.size w w' := by
  have hf := formatUint10 n (by omega) w ht.here
  have m9 := as53_9 (.int .u64 n)
  have m4 := as53_4 (.int .u64 n)
  have m23 := as53_23 (.int .u64 n)
  have m60 := as53_60 (.int .u64 n)
  have m3 := as53_3 (.int .u64 n)
  have m62 := as53_62 (.int .u64 n)
  have m64 := as53_64 (.int .u64 n)
  have m21 := as53_21 (.int .u64 n)
  have m2 := as53_2 (.int .u64 n)
  have mh := as53_53 (.int .u64 n)
  go_enter Tryz.func15, Tryz.ntmps15
  go_wp2_with fail
  refine hf.mono ?_
  rintro e w1 ⟨rfl, hb⟩
  go_wp2
  go_ret2
  exact ⟨rfl, hb⟩
set_option maxRecDepth 100000 in
theorem ToString_U (n : Nat) (hn : n < 18446744073709551616) (w : World) (B : Nat) (ht : Tab B w) (hB : B ≤ w.heap.size) : Calls Tryz.prog 7 #[anyV 7 0 (n : Nat) 0 ⟨#[]⟩] w fun e w' => e = .returned (.tuple #[.string (ba (Lib.decDigits n)), .bool true]) ∧ Below w.heap.size w w' := by
  have hv := fun W => value_U n hn W
  unfold anyV at hv ⊢
  go_enter Tryz.func7, Tryz.ntmps7
  go_wp2_with fail
  refine (hv _).mono ?_
  rintro e w1 ⟨rfl, hb1⟩
  have hbx : Below w.heap.size w w1 := ((Below.refl _ w).alloc (Nat.le_refl _) _).trans (hb1.mono (by simp))
  go_wp2_with fail
  refine (tostr_U n hn _ B (ht.on (hbx.mono hB))).mono ?_
  rintro e w2 ⟨rfl, hb2⟩
  go_wp2_with fail
  go_quiet (fail)
  go_wp2
  go_ret2
  exact ⟨rfl, bdr (hbx.trans (hb2.mono hbx.size)) _⟩


/-! ### U8 -/
set_option maxRecDepth 100000 in
theorem parse_U8 (s : ByteArray) (n : Nat) (h : NumText s n) (hn : n < 256) (w : World) : Calls Tryz.prog 67 #[.string s] w fun e w' => e = .returned (.tuple #[.int .u8 (n : Nat), .nilIface]) ∧ Below w.heap.size w w' := by
  have hwr : IntKind.u8.wrap (n : Int) = n := by rw [IntKind.wrap_u8]; omega
  go_enter Tryz.func67, Tryz.ntmps67
  go_wp2_with fail
  refine (trimDecimal_any s h.digs _).mono ?_
  rintro e w1 ⟨rfl, n1, rfl⟩
  go_wp2_with fail
  refine (trimLeft_any s h.digs _).mono ?_
  rintro e w2 ⟨rfl, hb2⟩
  go_wp2_with fail
  refine (parse90 s n h _).mono ?_
  rintro e w3 ⟨rfl, hb3⟩
  have hbe : Below w.heap.size w w3 := (bdr (Below.refl _ w) n1).trans ((hb2.mono (Nat.le_refl _)).trans (hb3.mono hb2.size))
  go_wp2
  go_ret2
  exact ⟨rfl, hbe⟩
set_option maxRecDepth 100000 in
theorem toUns_U8 (s : ByteArray) (w : World) : Calls Tryz.prog 89 #[.iface 9 (.string s)] w fun e w' => e = .returned (.tuple #[.int .u8 0, .bool true, .bool false]) ∧ w' = w := by
  have m5 := as9_5 (.string s)
  have m3 := as9_3 (.string s)
  have m62 := as9_62 (.string s)
  have m64 := as9_64 (.string s)
  have m21 := as9_21 (.string s)
  have m2 := as9_2 (.string s)
  have m53 := as9_53 (.string s)
  have m54 := as9_54 (.string s)
  have m55 := as9_55 (.string s)
  have m22 := as9_22 (.string s)
  have m60 := as9_60 (.string s)
  have m23 := as9_23 (.string s)
  have m4 := as9_4 (.string s)
  have m150 := as9_150 (.string s)
  have m151 := as9_151 (.string s)
  have m94 := as9_94 (.string s)
  have m95 := as9_95 (.string s)
  go_enter Tryz.func89, Tryz.ntmps89
  go_wp2
  go_ret3
  exact ⟨rfl, rfl⟩
set_option maxRecDepth 100000 in
theorem toUnsE_U8 (s : ByteArray) (n : Nat) (h : NumText s n) (hn : n < 256) (w : World) : Calls Tryz.prog 66 #[.iface 9 (.string s), .func (.func 67) #[] #[]] w fun e w' => e = .returned (.tuple #[.int .u8 (n : Nat), .nilIface]) ∧ Below w.heap.size w w' := by
  have hemp := digs_ne h.digs
  have m94 := as9_94 (.string s)
  have m95 := as9_95 (.string s)
  have m9 := as9_9 (.string s)
  go_enter Tryz.func66, Tryz.ntmps66
  go_wp2_with fail
  refine (toUns_U8 s _).mono ?_
  rintro e w1 ⟨rfl, rfl⟩
  go_wp2_with (first | (go_at_call 67; refine (parse_U8 s n h hn _).mono ?_; rintro e w2 ⟨rfl, hb⟩) | go_in)
  go_ret2
  exact ⟨rfl, hb⟩
set_option maxRecDepth 100000 in
theorem ToE_U8 (s : ByteArray) (n : Nat) (h : NumText s n) (hn : n < 256) (w : World) : Calls Tryz.prog 51 #[.iface 9 (.string s)] w fun e w' => e = .returned (.tuple #[.int .u8 (n : Nat), .nilIface]) ∧ Below w.heap.size w w' := by
  go_enter Tryz.func51, Tryz.ntmps51
  go_wp2_with fail
  refine (toUnsE_U8 s n h hn _).mono ?_
  rintro e w1 ⟨rfl, hb⟩
  go_wp2
  go_ret2
  exact ⟨rfl, hb⟩
set_option maxRecDepth 100000 in
theorem To_U8 (s : ByteArray) (n : Nat) (h : NumText s n) (hn : n < 256) (w : World) : Calls Tryz.prog 19 #[anyV 14 0 0 0 s] w fun e w' => e = .returned (.tuple #[.int .u64 (n : Nat), .bool true]) ∧ Below w.heap.size w w' := by
  have hv := fun W => value_str s W
  unfold anyV at hv ⊢
  go_enter Tryz.func19, Tryz.ntmps19
  go_wp2_with fail
  refine (hv _).mono ?_
  rintro e w1 ⟨rfl, hb1⟩
  have hbx : Below w.heap.size w w1 := ((Below.refl _ w).alloc (Nat.le_refl _) _).trans (hb1.mono (by simp))
  go_wp2_with fail
  refine (ToE_U8 s n h hn _).mono ?_
  rintro e w2 ⟨rfl, hb2⟩
  have hby := hbx.trans (hb2.mono hbx.size)
  go_wp2_with fail
  go_quiet (fail)
  go_wp2
  go_ret2
  exact ⟨rfl, bdr hby _⟩
set_option maxRecDepth 100000 in
theorem value_U8 (n : Nat) (hn : n < 256) (w : World) : Calls Tryz.prog 16 #[anyV 8 0 (n : Nat) 0 ⟨#[]⟩] w fun e w' => e = .returned (.iface 5 (.int .u8 (n : Nat))) ∧ Below w.heap.size w w' := by
  have hwr : IntKind.u8.wrap (n : Int) = n := by rw [IntKind.wrap_u8]; omega
  unfold anyV
  go_enter Tryz.func16, Tryz.ntmps16
  go_wp2
  go_ret
  exact ⟨rfl, al_b _ _⟩
set_option maxRecDepth 100000 in
theorem tostr_U8 (n : Nat) (hn : n < 256) (w : World) (B : Nat) (ht : Tab B w) : Calls Tryz.prog 15 #[.iface 5 (.int .u8 (n : Nat))] w fun e w' => e = .returned (.tuple #[.string (ba (Lib.decDigits n)), .nilIface]) ∧ Below w.heap.size w w' := by
  have hf := formatUint10 n (by omega) w ht.here
  have m9 := as5_9 (.int .u8 n)
  have m4 := as5_4 (.int .u8 n)
  have m23 := as5_23 (.int .u8 n)
  have m60 := as5_60 (.int .u8 n)
  have m3 := as5_3 (.int .u8 n)
  have m62 := as5_62 (.int .u8 n)
  have m64 := as5_64 (.int .u8 n)
  have m21 := as5_21 (.int .u8 n)
  have m2 := as5_2 (.int .u8 n)
  have m53 := as5_53 (.int .u8 n)
  have mh := as5_5 (.int .u8 n)
  go_enter Tryz.func15, Tryz.ntmps15
  go_wp2_with fail
  refine hf.mono ?_
  rintro e w1 ⟨rfl, hb⟩
  go_wp2
  go_ret2
  exact ⟨rfl, hb⟩
set_option maxRecDepth 100000 in
theorem ToString_U8 (n : Nat) (hn : n < 256) (w : World) (B : Nat) (ht : Tab B w) (hB : B ≤ w.heap.size) : Calls Tryz.prog 7 #[anyV 8 0 (n : Nat) 0 ⟨#[]⟩] w fun e w' => e = .returned (.tuple #[.string (ba (Lib.decDigits n)), .bool true]) ∧ Below w.heap.size w w' := by
  have hv := fun W => value_U8 n hn W
  unfold anyV at hv ⊢
  go_enter Tryz.func7, Tryz.ntmps7
  go_wp2_with fail
  refine (hv _).mono ?_
  rintro e w1 ⟨rfl, hb1⟩
  have hbx : Below w.heap.size w w1 := ((Below.refl _ w).alloc (Nat.le_refl _) _).trans (hb1.mono (by simp))
  go_wp2_with fail
  refine (tostr_U8 n hn _ B (ht.on (hbx.mono hB))).mono ?_
  rintro e w2 ⟨rfl, hb2⟩
  go_wp2_with fail
  go_quiet (fail)
  go_wp2
  go_ret2
  exact ⟨rfl, bdr (hbx.trans (hb2.mono hbx.size)) _⟩


/-! ### U16 -/
set_option maxRecDepth 100000 in
theorem parse_U16 (s : ByteArray) (n : Nat) (h : NumText s n) (hn : n < 65536) (w : World) : Calls Tryz.prog 69 #[.string s] w fun e w' => e = .returned (.tuple #[.int .u16 (n : Nat), .nilIface]) ∧ Below w.heap.size w w' := by
  have hwr : IntKind.u16.wrap (n : Int) = n := by rw [IntKind.wrap_u16]; omega
  go_enter Tryz.func69, Tryz.ntmps69
  go_wp2_with fail
  refine (trimDecimal_any s h.digs _).mono ?_
  rintro e w1 ⟨rfl, n1, rfl⟩
  go_wp2_with fail
  refine (trimLeft_any s h.digs _).mono ?_
  rintro e w2 ⟨rfl, hb2⟩
  go_wp2_with fail
  refine (parse90 s n h _).mono ?_
  rintro e w3 ⟨rfl, hb3⟩
  have hbe : Below w.heap.size w w3 := (bdr (Below.refl _ w) n1).trans ((hb2.mono (Nat.le_refl _)).trans (hb3.mono hb2.size))
  go_wp2
  go_ret2
  exact ⟨rfl, hbe⟩
set_option maxRecDepth 100000 in
theorem toUns_U16 (s : ByteArray) (w : World) : Calls Tryz.prog 92 #[.iface 9 (.string s)] w fun e w' => e = .returned (.tuple #[.int .u16 0, .bool true, .bool false]) ∧ w' = w := by
  have m5 := as9_5 (.string s)
  have m3 := as9_3 (.string s)
  have m62 := as9_62 (.string s)
  have m64 := as9_64 (.string s)
  have m21 := as9_21 (.string s)
  have m2 := as9_2 (.string s)
  have m53 := as9_53 (.string s)
  have m54 := as9_54 (.string s)
  have m55 := as9_55 (.string s)
  have m22 := as9_22 (.string s)
  have m60 := as9_60 (.string s)
  have m23 := as9_23 (.string s)
  have m4 := as9_4 (.string s)
  have m150 := as9_150 (.string s)
  have m151 := as9_151 (.string s)
  have m94 := as9_94 (.string s)
  have m95 := as9_95 (.string s)
  go_enter Tryz.func92, Tryz.ntmps92
  go_wp2
  go_ret3
  exact ⟨rfl, rfl⟩
set_option maxRecDepth 100000 in
theorem toUnsE_U16 (s : ByteArray) (n : Nat) (h : NumText s n) (hn : n < 65536) (w : World) : Calls Tryz.prog 68 #[.iface 9 (.string s), .func (.func 69) #[] #[]] w fun e w' => e = .returned (.tuple #[.int .u16 (n : Nat), .nilIface]) ∧ Below w.heap.size w w' := by
  have hemp := digs_ne h.digs
  have m94 := as9_94 (.string s)
  have m95 := as9_95 (.string s)
  have m9 := as9_9 (.string s)
  go_enter Tryz.func68, Tryz.ntmps68
  go_wp2_with fail
  refine (toUns_U16 s _).mono ?_
  rintro e w1 ⟨rfl, rfl⟩
  go_wp2_with (first | (go_at_call 69; refine (parse_U16 s n h hn _).mono ?_; rintro e w2 ⟨rfl, hb⟩) | go_in)
  go_ret2
  exact ⟨rfl, hb⟩
set_option maxRecDepth 100000 in
theorem ToE_U16 (s : ByteArray) (n : Nat) (h : NumText s n) (hn : n < 65536) (w : World) : Calls Tryz.prog 52 #[.iface 9 (.string s)] w fun e w' => e = .returned (.tuple #[.int .u16 (n : Nat), .nilIface]) ∧ Below w.heap.size w w' := by
  go_enter Tryz.func52, Tryz.ntmps52
  go_wp2_with fail
  refine (toUnsE_U16 s n h hn _).mono ?_
  rintro e w1 ⟨rfl, hb⟩
  go_wp2
  go_ret2
  exact ⟨rfl, hb⟩
set_option maxRecDepth 100000 in
theorem To_U16 (s : ByteArray) (n : Nat) (h : NumText s n) (hn : n < 65536) (w : World) : Calls Tryz.prog 20 #[anyV 14 0 0 0 s] w fun e w' => e = .returned (.tuple #[.int .u64 (n : Nat), .bool true]) ∧ Below w.heap.size w w' := by
  have hv := fun W => value_str s W
  unfold anyV at hv ⊢
  go_enter Tryz.func20, Tryz.ntmps20
  go_wp2_with fail
  refine (hv _).mono ?_
  rintro e w1 ⟨rfl, hb1⟩
  have hbx : Below w.heap.size w w1 := ((Below.refl _ w).alloc (Nat.le_refl _) _).trans (hb1.mono (by simp))
  go_wp2_with fail
  refine (ToE_U16 s n h hn _).mono ?_
  rintro e w2 ⟨rfl, hb2⟩
  have hby := hbx.trans (hb2.mono hbx.size)
  go_wp2_with fail
  go_quiet (fail)
  go_wp2
  go_ret2
  exact ⟨rfl, bdr hby _⟩
set_option maxRecDepth 100000 in
theorem value_U16 (n : Nat) (hn : n < 65536) (w : World) : Calls Tryz.prog 16 #[anyV 9 0 (n : Nat) 0 ⟨#[]⟩] w fun e w' => e = .returned (.iface 54 (.int .u16 (n : Nat))) ∧ Below w.heap.size w w' := by
  have hwr : IntKind.u16.wrap (n : Int) = n := by rw [IntKind.wrap_u16]; omega
  unfold anyV
  go_enter Tryz.func16, Tryz.ntmps16
  go_wp2
  go_ret
  exact ⟨rfl, al_b _ _⟩
set_option maxRecDepth 100000 in
theorem tostr_U16 (n : Nat) (hn : n < 65536) (w : World) (B : Nat) (ht : Tab B w) : Calls Tryz.prog 15 #[.iface 54 (.int .u16 (n : Nat))] w fun e w' => e = .returned (.tuple #[.string (ba (Lib.decDigits n)), .nilIface]) ∧ Below w.heap.size w w' := by
  have hf := formatUint10 n (by omega) w ht.here
  have m9 := as54_9 (.int .u16 n)
  have m4 := as54_4 (.int .u16 n)
  have m23 := as54_23 (.int .u16 n)
  have m60 := as54_60 (.int .u16 n)
  have m3 := as54_3 (.int .u16 n)
  have m62 := as54_62 (.int .u16 n)
  have m64 := as54_64 (.int .u16 n)
  have m21 := as54_21 (.int .u16 n)
  have m2 := as54_2 (.int .u16 n)
  have m53 := as54_53 (.int .u16 n)
  have m5 := as54_5 (.int .u16 n)
  have mh := as54_54 (.int .u16 n)
  go_enter Tryz.func15, Tryz.ntmps15
  go_wp2_with fail
  refine hf.mono ?_
  rintro e w1 ⟨rfl, hb⟩
  go_wp2
  go_ret2
  exact ⟨rfl, hb⟩
set_option maxRecDepth 100000 in
theorem ToString_U16 (n : Nat) (hn : n < 65536) (w : World) (B : Nat) (ht : Tab B w) (hB : B ≤ w.heap.size) : Calls Tryz.prog 7 #[anyV 9 0 (n : Nat) 0 ⟨#[]⟩] w fun e w' => e = .returned (.tuple #[.string (ba (Lib.decDigits n)), .bool true]) ∧ Below w.heap.size w w' := by
  have hv := fun W => value_U16 n hn W
  unfold anyV at hv ⊢
  go_enter Tryz.func7, Tryz.ntmps7
  go_wp2_with fail
  refine (hv _).mono ?_
  rintro e w1 ⟨rfl, hb1⟩
  have hbx : Below w.heap.size w w1 := ((Below.refl _ w).alloc (Nat.le_refl _) _).trans (hb1.mono (by simp))
  go_wp2_with fail
  refine (tostr_U16 n hn _ B (ht.on (hbx.mono hB))).mono ?_
  rintro e w2 ⟨rfl, hb2⟩
  go_wp2_with fail
  go_quiet (fail)
  go_wp2
  go_ret2
  exact ⟨rfl, bdr (hbx.trans (hb2.mono hbx.size)) _⟩


/-! ### U32 -/
set_option maxRecDepth 100000 in
theorem parse_U32 (s : ByteArray) (n : Nat) (h : NumText s n) (hn : n < 4294967296) (w : World) : Calls Tryz.prog 71 #[.string s] w fun e w' => e = .returned (.tuple #[.int .u32 (n : Nat), .nilIface]) ∧ Below w.heap.size w w' := by
  have hwr : IntKind.u32.wrap (n : Int) = n := by rw [IntKind.wrap_u32]; omega
  go_enter Tryz.func71, Tryz.ntmps71
  go_wp2_with fail
  refine (trimDecimal_any s h.digs _).mono ?_
  rintro e w1 ⟨rfl, n1, rfl⟩
  go_wp2_with fail
  refine (trimLeft_any s h.digs _).mono ?_
  rintro e w2 ⟨rfl, hb2⟩
  go_wp2_with fail
  refine (parse90 s n h _).mono ?_
  rintro e w3 ⟨rfl, hb3⟩
  have hbe : Below w.heap.size w w3 := (bdr (Below.refl _ w) n1).trans ((hb2.mono (Nat.le_refl _)).trans (hb3.mono hb2.size))
  go_wp2
  go_ret2
  exact ⟨rfl, hbe⟩
set_option maxRecDepth 100000 in
theorem toUns_U32 (s : ByteArray) (w : World) : Calls Tryz.prog 93 #[.iface 9 (.string s)] w fun e w' => e = .returned (.tuple #[.int .u32 0, .bool true, .bool false]) ∧ w' = w := by
  have m5 := as9_5 (.string s)
  have m3 := as9_3 (.string s)
  have m62 := as9_62 (.string s)
  have m64 := as9_64 (.string s)
  have m21 := as9_21 (.string s)
  have m2 := as9_2 (.string s)
  have m53 := as9_53 (.string s)
  have m54 := as9_54 (.string s)
  have m55 := as9_55 (.string s)
  have m22 := as9_22 (.string s)
  have m60 := as9_60 (.string s)
  have m23 := as9_23 (.string s)
  have m4 := as9_4 (.string s)
  have m150 := as9_150 (.string s)
  have m151 := as9_151 (.string s)
  have m94 := as9_94 (.string s)
  have m95 := as9_95 (.string s)
  go_enter Tryz.func93, Tryz.ntmps93
  go_wp2
  go_ret3
  exact ⟨rfl, rfl⟩
set_option maxRecDepth 100000 in
theorem toUnsE_U32 (s : ByteArray) (n : Nat) (h : NumText s n) (hn : n < 4294967296) (w : World) : Calls Tryz.prog 70 #[.iface 9 (.string s), .func (.func 71) #[] #[]] w fun e w' => e = .returned (.tuple #[.int .u32 (n : Nat), .nilIface]) ∧ Below w.heap.size w w' := by
  have hemp := digs_ne h.digs
  have m94 := as9_94 (.string s)
  have m95 := as9_95 (.string s)
  have m9 := as9_9 (.string s)
  go_enter Tryz.func70, Tryz.ntmps70
  go_wp2_with fail
  refine (toUns_U32 s _).mono ?_
  rintro e w1 ⟨rfl, rfl⟩
  go_wp2_with (first | (go_at_call 71; refine (parse_U32 s n h hn _).mono ?_; rintro e w2 ⟨rfl, hb⟩) | go_in)
  go_ret2
  exact ⟨rfl, hb⟩
set_option maxRecDepth 100000 in
theorem ToE_U32 (s : ByteArray) (n : Nat) (h : NumText s n) (hn : n < 4294967296) (w : World) : Calls Tryz.prog 53 #[.iface 9 (.string s)] w fun e w' => e = .returned (.tuple #[.int .u32 (n : Nat), .nilIface]) ∧ Below w.heap.size w w' := by
  go_enter Tryz.func53, Tryz.ntmps53
  go_wp2_with fail
  refine (toUnsE_U32 s n h hn _).mono ?_
  rintro e w1 ⟨rfl, hb⟩
  go_wp2
  go_ret2
  exact ⟨rfl, hb⟩
set_option maxRecDepth 100000 in
theorem To_U32 (s : ByteArray) (n : Nat) (h : NumText s n) (hn : n < 4294967296) (w : World) : Calls Tryz.prog 21 #[anyV 14 0 0 0 s] w fun e w' => e = .returned (.tuple #[.int .u64 (n : Nat), .bool true]) ∧ Below w.heap.size w w' := by
  have hv := fun W => value_str s W
  unfold anyV at hv ⊢
  go_enter Tryz.func21, Tryz.ntmps21
  go_wp2_with fail
  refine (hv _).mono ?_
  rintro e w1 ⟨rfl, hb1⟩
  have hbx : Below w.heap.size w w1 := ((Below.refl _ w).alloc (Nat.le_refl _) _).trans (hb1.mono (by simp))
  go_wp2_with fail
  refine (ToE_U32 s n h hn _).mono ?_
  rintro e w2 ⟨rfl, hb2⟩
  have hby := hbx.trans (hb2.mono hbx.size)
  go_wp2_with fail
  go_quiet (fail)
  go_wp2
  go_ret2
  exact ⟨rfl, bdr hby _⟩
set_option maxRecDepth 100000 in
theorem value_U32 (n : Nat) (hn : n < 4294967296) (w : World) : Calls Tryz.prog 16 #[anyV 10 0 (n : Nat) 0 ⟨#[]⟩] w fun e w' => e = .returned (.iface 55 (.int .u32 (n : Nat))) ∧ Below w.heap.size w w' := by
  have hwr : IntKind.u32.wrap (n : Int) = n := by rw [IntKind.wrap_u32]; omega
  unfold anyV
  go_enter Tryz.func16, Tryz.ntmps16
  go_wp2
  go_ret
  exact ⟨rfl, al_b _ _⟩
set_option maxRecDepth 100000 in
theorem tostr_U32 (n : Nat) (hn : n < 4294967296) (w : World) (B : Nat) (ht : Tab B w) : Calls Tryz.prog 15 #[.iface 55 (.int .u32 (n : Nat))] w fun e w' => e = .returned (.tuple #[.string (ba (Lib.decDigits n)), .nilIface]) ∧ Below w.heap.size w w' := by
  have hf := formatUint10 n (by omega) w ht.here
  have m9 := as55_9 (.int .u32 n)
  have m4 := as55_4 (.int .u32 n)
  have m23 := as55_23 (.int .u32 n)
  have m60 := as55_60 (.int .u32 n)
  have m3 := as55_3 (.int .u32 n)
  have m62 := as55_62 (.int .u32 n)
  have m64 := as55_64 (.int .u32 n)
  have m21 := as55_21 (.int .u32 n)
  have m2 := as55_2 (.int .u32 n)
  have m53 := as55_53 (.int .u32 n)
  have m5 := as55_5 (.int .u32 n)
  have m54 := as55_54 (.int .u32 n)
  have mh := as55_55 (.int .u32 n)
  go_enter Tryz.func15, Tryz.ntmps15
  go_wp2_with fail
  refine hf.mono ?_
  rintro e w1 ⟨rfl, hb⟩
  go_wp2
  go_ret2
  exact ⟨rfl, hb⟩
set_option maxRecDepth 100000 in
theorem ToString_U32 (n : Nat) (hn : n < 4294967296) (w : World) (B : Nat) (ht : Tab B w) (hB : B ≤ w.heap.size) : Calls Tryz.prog 7 #[anyV 10 0 (n : Nat) 0 ⟨#[]⟩] w fun e w' => e = .returned (.tuple #[.string (ba (Lib.decDigits n)), .bool true]) ∧ Below w.heap.size w w' := by
  have hv := fun W => value_U32 n hn W
  unfold anyV at hv ⊢
  go_enter Tryz.func7, Tryz.ntmps7
  go_wp2_with fail
  refine (hv _).mono ?_
  rintro e w1 ⟨rfl, hb1⟩
  have hbx : Below w.heap.size w w1 := ((Below.refl _ w).alloc (Nat.le_refl _) _).trans (hb1.mono (by simp))
  go_wp2_with fail
  refine (tostr_U32 n hn _ B (ht.on (hbx.mono hB))).mono ?_
  rintro e w2 ⟨rfl, hb2⟩
  go_wp2_with fail
  go_quiet (fail)
  go_wp2
  go_ret2
  exact ⟨rfl, bdr (hbx.trans (hb2.mono hbx.size)) _⟩


/-! ### U64 -/
set_option maxRecDepth 100000 in
theorem parse_U64 (s : ByteArray) (n : Nat) (h : NumText s n) (hn : n < 18446744073709551616) (w : World) : Calls Tryz.prog 73 #[.string s] w fun e w' => e = .returned (.tuple #[.int .u64 (n : Nat), .nilIface]) ∧ Below w.heap.size w w' := by
  go_enter Tryz.func73, Tryz.ntmps73
  go_wp2_with fail
  refine (trimDecimal_any s h.digs _).mono ?_
  rintro e w1 ⟨rfl, n1, rfl⟩
  go_wp2_with fail
  refine (trimLeft_any s h.digs _).mono ?_
  rintro e w2 ⟨rfl, hb2⟩
  go_wp2_with fail
  refine (parse90 s n h _).mono ?_
  rintro e w3 ⟨rfl, hb3⟩
  have hbe : Below w.heap.size w w3 := (bdr (Below.refl _ w) n1).trans ((hb2.mono (Nat.le_refl _)).trans (hb3.mono hb2.size))
  go_wp2
  go_ret2
  exact ⟨rfl, hbe⟩
set_option maxRecDepth 100000 in
theorem toUns_U64 (s : ByteArray) (w : World) : Calls Tryz.prog 94 #[.iface 9 (.string s)] w fun e w' => e = .returned (.tuple #[.int .u64 0, .bool true, .bool false]) ∧ w' = w := by
  have m5 := as9_5 (.string s)
  have m3 := as9_3 (.string s)
  have m62 := as9_62 (.string s)
  have m64 := as9_64 (.string s)
  have m21 := as9_21 (.string s)
  have m2 := as9_2 (.string s)
  have m53 := as9_53 (.string s)
  have m54 := as9_54 (.string s)
  have m55 := as9_55 (.string s)
  have m22 := as9_22 (.string s)
  have m60 := as9_60 (.string s)
  have m23 := as9_23 (.string s)
  have m4 := as9_4 (.string s)
  have m150 := as9_150 (.string s)
  have m151 := as9_151 (.string s)
  have m94 := as9_94 (.string s)
  have m95 := as9_95 (.string s)
  go_enter Tryz.func94, Tryz.ntmps94
  go_wp2
  go_ret3
  exact ⟨rfl, rfl⟩
set_option maxRecDepth 100000 in
theorem toUnsE_U64 (s : ByteArray) (n : Nat) (h : NumText s n) (hn : n < 18446744073709551616) (w : World) : Calls Tryz.prog 72 #[.iface 9 (.string s), .func (.func 73) #[] #[]] w fun e w' => e = .returned (.tuple #[.int .u64 (n : Nat), .nilIface]) ∧ Below w.heap.size w w' := by
  have hemp := digs_ne h.digs
  have m94 := as9_94 (.string s)
  have m95 := as9_95 (.string s)
  have m9 := as9_9 (.string s)
  go_enter Tryz.func72, Tryz.ntmps72
  go_wp2_with fail
  refine (toUns_U64 s _).mono ?_
  rintro e w1 ⟨rfl, rfl⟩
  go_wp2_with (first | (go_at_call 73; refine (parse_U64 s n h hn _).mono ?_; rintro e w2 ⟨rfl, hb⟩) | go_in)
  go_ret2
  exact ⟨rfl, hb⟩
set_option maxRecDepth 100000 in
theorem ToE_U64 (s : ByteArray) (n : Nat) (h : NumText s n) (hn : n < 18446744073709551616) (w : World) : Calls Tryz.prog 54 #[.iface 9 (.string s)] w fun e w' => e = .returned (.tuple #[.int .u64 (n : Nat), .nilIface]) ∧ Below w.heap.size w w' := by
  go_enter Tryz.func54, Tryz.ntmps54
  go_wp2_with fail
  refine (toUnsE_U64 s n h hn _).mono ?_
  rintro e w1 ⟨rfl, hb⟩
  go_wp2
  go_ret2
  exact ⟨rfl, hb⟩
set_option maxRecDepth 100000 in
theorem To_U64 (s : ByteArray) (n : Nat) (h : NumText s n) (hn : n < 18446744073709551616) (w : World) : Calls Tryz.prog 22 #[anyV 14 0 0 0 s] w fun e w' => e = .returned (.tuple #[.int .u64 (n : Nat), .bool true]) ∧ Below w.heap.size w w' := by
  have hv := fun W => value_str s W
  unfold anyV at hv ⊢
  go_enter Tryz.func22, Tryz.ntmps22
  go_wp2_with fail
  refine (hv _).mono ?_
  rintro e w1 ⟨rfl, hb1⟩
  have hbx : Below w.heap.size w w1 := ((Below.refl _ w).alloc (Nat.le_refl _) _).trans (hb1.mono (by simp))
  go_wp2_with fail
  refine (ToE_U64 s n h hn _).mono ?_
  rintro e w2 ⟨rfl, hb2⟩
  have hby := hbx.trans (hb2.mono hbx.size)
  go_wp2_with fail
  go_quiet (fail)
  go_wp2
  go_ret2
  exact ⟨rfl, bdr hby _⟩
set_option maxRecDepth 100000 in
theorem value_U64 (n : Nat) (hn : n < 18446744073709551616) (w : World) : Calls Tryz.prog 16 #[anyV 11 0 (n : Nat) 0 ⟨#[]⟩] w fun e w' => e = .returned (.iface 22 (.int .u64 (n : Nat))) ∧ Below w.heap.size w w' := by
  unfold anyV
  go_enter Tryz.func16, Tryz.ntmps16
  go_wp2
  go_ret
  exact ⟨rfl, al_b _ _⟩
set_option maxRecDepth 100000 in
theorem tostr_U64 (n : Nat) (hn : n < 18446744073709551616) (w : World) (B : Nat) (ht : Tab B w) : Calls Tryz.prog 15 #[.iface 22 (.int .u64 (n : Nat))] w fun e w' => e = .returned (.tuple #[.string (ba (Lib.decDigits n)), .nilIface]) ∧ Below w.heap.size w w' := by
  have hf := formatUint10 n (by omega) w ht.here
  have m9 := as22_9 (.int .u64 n)
  have m4 := as22_4 (.int .u64 n)
  have m23 := as22_23 (.int .u64 n)
  have m60 := as22_60 (.int .u64 n)
  have m3 := as22_3 (.int .u64 n)
  have m62 := as22_62 (.int .u64 n)
  have m64 := as22_64 (.int .u64 n)
  have m21 := as22_21 (.int .u64 n)
  have m2 := as22_2 (.int .u64 n)
  have m53 := as22_53 (.int .u64 n)
  have m5 := as22_5 (.int .u64 n)
  have m54 := as22_54 (.int .u64 n)
  have m55 := as22_55 (.int .u64 n)
  have mh := as22_22 (.int .u64 n)
  go_enter Tryz.func15, Tryz.ntmps15
  go_wp2_with fail
  refine hf.mono ?_
  rintro e w1 ⟨rfl, hb⟩
  go_wp2
  go_ret2
  exact ⟨rfl, hb⟩
set_option maxRecDepth 100000 in
theorem ToString_U64 (n : Nat) (hn : n < 18446744073709551616) (w : World) (B : Nat) (ht : Tab B w) (hB : B ≤ w.heap.size) : Calls Tryz.prog 7 #[anyV 11 0 (n : Nat) 0 ⟨#[]⟩] w fun e w' => e = .returned (.tuple #[.string (ba (Lib.decDigits n)), .bool true]) ∧ Below w.heap.size w w' := by
  have hv := fun W => value_U64 n hn W
  unfold anyV at hv ⊢
  go_enter Tryz.func7, Tryz.ntmps7
  go_wp2_with fail
  refine (hv _).mono ?_
  rintro e w1 ⟨rfl, hb1⟩
  have hbx : Below w.heap.size w w1 := ((Below.refl _ w).alloc (Nat.le_refl _) _).trans (hb1.mono (by simp))
  go_wp2_with fail
  refine (tostr_U64 n hn _ B (ht.on (hbx.mono hB))).mono ?_
  rintro e w2 ⟨rfl, hb2⟩
  go_wp2_with fail
  go_quiet (fail)
  go_wp2
  go_ret2
  exact ⟨rfl, bdr (hbx.trans (hb2.mono hbx.size)) _⟩

end Go.Proofs.YtigfkbeiaphjfaaGreatDoor.Ca
