/- The walks of cast's ToInt64E, ToIntE, ToInt64, ToInt at plain values: what they answer hangs on the value alone. -/
import Derived.Test.YtcfknhboicomjaaGreatDoorAs
import Derived.Test.YtcfknhboicomjaaGreatDoorPI
import Derived.Test.YtcfknhboicomjaaGreatDoorFlo
namespace Go.Proofs.YtcfknhboicomjaaGreatDoor.Ca
open Go.RowKit PFnCastMapInt64s Go.Proofs.YtcfknhboicomjaaGreatDoorW.PrintWords Fl

set_option maxRecDepth 100000 in
theorem indirect_nil (w : World) : Calls Tryz.prog 59 #[.nilIface] w fun e w' => e = .returned (.tuple #[.nilIface, .bool false]) ∧ w' = w := by
  have m1 := asN_99
  have m2 := asN_100
  go_enter Tryz.func59, Tryz.ntmps59
  go_wp2
  go_ret2
  exact ⟨rfl, rfl⟩
set_option maxRecDepth 100000 in
theorem indirect_4 (v : Value) (w : World) : Calls Tryz.prog 59 #[.iface 4 v] w fun e w' => e = .returned (.tuple #[.iface 4 v, .bool false]) ∧ w' = w := by
  have m1 := as4_99 v
  have m2 := as4_100 v
  go_enter Tryz.func59, Tryz.ntmps59
  go_wp2
  go_ret2
  exact ⟨rfl, rfl⟩
set_option maxRecDepth 100000 in
theorem indirect_3 (v : Value) (w : World) : Calls Tryz.prog 59 #[.iface 3 v] w fun e w' => e = .returned (.tuple #[.iface 3 v, .bool false]) ∧ w' = w := by
  have m1 := as3_99 v
  have m2 := as3_100 v
  go_enter Tryz.func59, Tryz.ntmps59
  go_wp2
  go_ret2
  exact ⟨rfl, rfl⟩
set_option maxRecDepth 100000 in
theorem indirect_71 (v : Value) (w : World) : Calls Tryz.prog 59 #[.iface 71 v] w fun e w' => e = .returned (.tuple #[.iface 71 v, .bool false]) ∧ w' = w := by
  have m1 := as71_99 v
  have m2 := as71_100 v
  go_enter Tryz.func59, Tryz.ntmps59
  go_wp2
  go_ret2
  exact ⟨rfl, rfl⟩
set_option maxRecDepth 100000 in
theorem indirect_72 (v : Value) (w : World) : Calls Tryz.prog 59 #[.iface 72 v] w fun e w' => e = .returned (.tuple #[.iface 72 v, .bool false]) ∧ w' = w := by
  have m1 := as72_99 v
  have m2 := as72_100 v
  go_enter Tryz.func59, Tryz.ntmps59
  go_wp2
  go_ret2
  exact ⟨rfl, rfl⟩
set_option maxRecDepth 100000 in
theorem indirect_21 (v : Value) (w : World) : Calls Tryz.prog 59 #[.iface 21 v] w fun e w' => e = .returned (.tuple #[.iface 21 v, .bool false]) ∧ w' = w := by
  have m1 := as21_99 v
  have m2 := as21_100 v
  go_enter Tryz.func59, Tryz.ntmps59
  go_wp2
  go_ret2
  exact ⟨rfl, rfl⟩
set_option maxRecDepth 100000 in
theorem indirect_2 (v : Value) (w : World) : Calls Tryz.prog 59 #[.iface 2 v] w fun e w' => e = .returned (.tuple #[.iface 2 v, .bool false]) ∧ w' = w := by
  have m1 := as2_99 v
  have m2 := as2_100 v
  go_enter Tryz.func59, Tryz.ntmps59
  go_wp2
  go_ret2
  exact ⟨rfl, rfl⟩
set_option maxRecDepth 100000 in
theorem indirect_73 (v : Value) (w : World) : Calls Tryz.prog 59 #[.iface 73 v] w fun e w' => e = .returned (.tuple #[.iface 73 v, .bool false]) ∧ w' = w := by
  have m1 := as73_99 v
  have m2 := as73_100 v
  go_enter Tryz.func59, Tryz.ntmps59
  go_wp2
  go_ret2
  exact ⟨rfl, rfl⟩
set_option maxRecDepth 100000 in
theorem indirect_5 (v : Value) (w : World) : Calls Tryz.prog 59 #[.iface 5 v] w fun e w' => e = .returned (.tuple #[.iface 5 v, .bool false]) ∧ w' = w := by
  have m1 := as5_99 v
  have m2 := as5_100 v
  go_enter Tryz.func59, Tryz.ntmps59
  go_wp2
  go_ret2
  exact ⟨rfl, rfl⟩
set_option maxRecDepth 100000 in
theorem indirect_74 (v : Value) (w : World) : Calls Tryz.prog 59 #[.iface 74 v] w fun e w' => e = .returned (.tuple #[.iface 74 v, .bool false]) ∧ w' = w := by
  have m1 := as74_99 v
  have m2 := as74_100 v
  go_enter Tryz.func59, Tryz.ntmps59
  go_wp2
  go_ret2
  exact ⟨rfl, rfl⟩
set_option maxRecDepth 100000 in
theorem indirect_75 (v : Value) (w : World) : Calls Tryz.prog 59 #[.iface 75 v] w fun e w' => e = .returned (.tuple #[.iface 75 v, .bool false]) ∧ w' = w := by
  have m1 := as75_99 v
  have m2 := as75_100 v
  go_enter Tryz.func59, Tryz.ntmps59
  go_wp2
  go_ret2
  exact ⟨rfl, rfl⟩
set_option maxRecDepth 100000 in
theorem indirect_24 (v : Value) (w : World) : Calls Tryz.prog 59 #[.iface 24 v] w fun e w' => e = .returned (.tuple #[.iface 24 v, .bool false]) ∧ w' = w := by
  have m1 := as24_99 v
  have m2 := as24_100 v
  go_enter Tryz.func59, Tryz.ntmps59
  go_wp2
  go_ret2
  exact ⟨rfl, rfl⟩
set_option maxRecDepth 100000 in
theorem indirect_76 (v : Value) (w : World) : Calls Tryz.prog 59 #[.iface 76 v] w fun e w' => e = .returned (.tuple #[.iface 76 v, .bool false]) ∧ w' = w := by
  have m1 := as76_99 v
  have m2 := as76_100 v
  go_enter Tryz.func59, Tryz.ntmps59
  go_wp2
  go_ret2
  exact ⟨rfl, rfl⟩
set_option maxRecDepth 100000 in
theorem indirect_25 (v : Value) (w : World) : Calls Tryz.prog 59 #[.iface 25 v] w fun e w' => e = .returned (.tuple #[.iface 25 v, .bool false]) ∧ w' = w := by
  have m1 := as25_99 v
  have m2 := as25_100 v
  go_enter Tryz.func59, Tryz.ntmps59
  go_wp2
  go_ret2
  exact ⟨rfl, rfl⟩
set_option maxRecDepth 100000 in
theorem indirect_9 (v : Value) (w : World) : Calls Tryz.prog 59 #[.iface 9 v] w fun e w' => e = .returned (.tuple #[.iface 9 v, .bool false]) ∧ w' = w := by
  have m1 := as9_99 v
  have m2 := as9_100 v
  go_enter Tryz.func59, Tryz.ntmps59
  go_wp2
  go_ret2
  exact ⟨rfl, rfl⟩
/-- A value of which toNumber makes a number. -/
def NumL (v : Value) (y : Int) : Prop := ∀ W, Calls Tryz.prog 66 #[v] W fun e w' => e = .returned (.tuple #[.int .i64 y, .bool true]) ∧ w' = W
set_option maxRecDepth 100000 in
theorem numEL_of (v : Value) (y : Int) (h : NumL v y) (f : Value) (w : World) : Calls Tryz.prog 31 #[v, f] w fun e w' => e = .returned (.tuple #[.int .i64 y, .nilIface]) ∧ w' = w := by
  unfold NumL at h
  go_enter Tryz.func31, Tryz.ntmps31
  go_wp2_with fail
  refine (h _).mono ?_
  rintro e w1 ⟨rfl, rfl⟩
  go_wp2
  go_ret2
  exact ⟨rfl, rfl⟩
set_option maxRecDepth 100000 in
theorem numL_4 (b : Bool) (w : World) : Calls Tryz.prog 66 #[.iface 4 (.bool b)] w fun e w' => e = .returned (.tuple #[.int .i64 (if b then 1 else 0), .bool true]) ∧ w' = w := by
  have m0 := as4_2 (.bool b)
  have m1 := as4_3 (.bool b)
  have m2 := as4_71 (.bool b)
  have m3 := as4_72 (.bool b)
  have m4 := as4_21 (.bool b)
  have m5 := as4_73 (.bool b)
  have m6 := as4_5 (.bool b)
  have m7 := as4_74 (.bool b)
  have m8 := as4_75 (.bool b)
  have m9 := as4_24 (.bool b)
  have m10 := as4_76 (.bool b)
  have m11 := as4_25 (.bool b)
  have m12 := as4_4 (.bool b)
  go_enter Tryz.func66, Tryz.ntmps66
  go_wp2_with fail
  refine (indirect_4 _ _).mono ?_
  rintro e w1 ⟨rfl, rfl⟩
  cases b
  · go_wp2
    go_ret2
    exact ⟨rfl, rfl⟩
  · go_wp2
    go_ret2
    exact ⟨rfl, rfl⟩
set_option maxRecDepth 100000 in
theorem numL_3 (x : Int) (w : World) : Calls Tryz.prog 66 #[.iface 3 (.int .i64 x)] w fun e w' => e = .returned (.tuple #[.int .i64 x, .bool true]) ∧ w' = w := by
  have m0 := as3_2 (.int .i64 x)
  have m1 := as3_3 (.int .i64 x)
  go_enter Tryz.func66, Tryz.ntmps66
  go_wp2_with fail
  refine (indirect_3 _ _).mono ?_
  rintro e w1 ⟨rfl, rfl⟩
  go_wp2
  go_ret2
  exact ⟨rfl, rfl⟩
set_option maxRecDepth 100000 in
theorem numL_71 (x : Int) (w : World) : Calls Tryz.prog 66 #[.iface 71 (.int .i8 x)] w fun e w' => e = .returned (.tuple #[.int .i64 (wrap64 x), .bool true]) ∧ w' = w := by
  have m0 := as71_2 (.int .i8 x)
  have m1 := as71_3 (.int .i8 x)
  have m2 := as71_71 (.int .i8 x)
  go_enter Tryz.func66, Tryz.ntmps66
  go_wp2_with fail
  refine (indirect_71 _ _).mono ?_
  rintro e w1 ⟨rfl, rfl⟩
  go_wp2
  go_ret2
  exact ⟨rfl, rfl⟩
set_option maxRecDepth 100000 in
theorem numL_72 (x : Int) (w : World) : Calls Tryz.prog 66 #[.iface 72 (.int .i16 x)] w fun e w' => e = .returned (.tuple #[.int .i64 (wrap64 x), .bool true]) ∧ w' = w := by
  have m0 := as72_2 (.int .i16 x)
  have m1 := as72_3 (.int .i16 x)
  have m2 := as72_71 (.int .i16 x)
  have m3 := as72_72 (.int .i16 x)
  go_enter Tryz.func66, Tryz.ntmps66
  go_wp2_with fail
  refine (indirect_72 _ _).mono ?_
  rintro e w1 ⟨rfl, rfl⟩
  go_wp2
  go_ret2
  exact ⟨rfl, rfl⟩
set_option maxRecDepth 100000 in
theorem numL_21 (x : Int) (w : World) : Calls Tryz.prog 66 #[.iface 21 (.int .i32 x)] w fun e w' => e = .returned (.tuple #[.int .i64 (wrap64 x), .bool true]) ∧ w' = w := by
  have m0 := as21_2 (.int .i32 x)
  have m1 := as21_3 (.int .i32 x)
  have m2 := as21_71 (.int .i32 x)
  have m3 := as21_72 (.int .i32 x)
  have m4 := as21_21 (.int .i32 x)
  go_enter Tryz.func66, Tryz.ntmps66
  go_wp2_with fail
  refine (indirect_21 _ _).mono ?_
  rintro e w1 ⟨rfl, rfl⟩
  go_wp2
  go_ret2
  exact ⟨rfl, rfl⟩
set_option maxRecDepth 100000 in
theorem numL_2 (x : Int) (w : World) : Calls Tryz.prog 66 #[.iface 2 (.int .i64 x)] w fun e w' => e = .returned (.tuple #[.int .i64 x, .bool true]) ∧ w' = w := by
  have m0 := as2_2 (.int .i64 x)
  go_enter Tryz.func66, Tryz.ntmps66
  go_wp2_with fail
  refine (indirect_2 _ _).mono ?_
  rintro e w1 ⟨rfl, rfl⟩
  go_wp2
  go_ret2
  exact ⟨rfl, rfl⟩
set_option maxRecDepth 100000 in
theorem numL_73 (x : Int) (w : World) : Calls Tryz.prog 66 #[.iface 73 (.int .u64 x)] w fun e w' => e = .returned (.tuple #[.int .i64 (wrap64 x), .bool true]) ∧ w' = w := by
  have m0 := as73_2 (.int .u64 x)
  have m1 := as73_3 (.int .u64 x)
  have m2 := as73_71 (.int .u64 x)
  have m3 := as73_72 (.int .u64 x)
  have m4 := as73_21 (.int .u64 x)
  have m5 := as73_73 (.int .u64 x)
  go_enter Tryz.func66, Tryz.ntmps66
  go_wp2_with fail
  refine (indirect_73 _ _).mono ?_
  rintro e w1 ⟨rfl, rfl⟩
  go_wp2
  go_ret2
  exact ⟨rfl, rfl⟩
set_option maxRecDepth 100000 in
theorem numL_5 (x : Int) (w : World) : Calls Tryz.prog 66 #[.iface 5 (.int .u8 x)] w fun e w' => e = .returned (.tuple #[.int .i64 (wrap64 x), .bool true]) ∧ w' = w := by
  have m0 := as5_2 (.int .u8 x)
  have m1 := as5_3 (.int .u8 x)
  have m2 := as5_71 (.int .u8 x)
  have m3 := as5_72 (.int .u8 x)
  have m4 := as5_21 (.int .u8 x)
  have m5 := as5_73 (.int .u8 x)
  have m6 := as5_5 (.int .u8 x)
  go_enter Tryz.func66, Tryz.ntmps66
  go_wp2_with fail
  refine (indirect_5 _ _).mono ?_
  rintro e w1 ⟨rfl, rfl⟩
  go_wp2
  go_ret2
  exact ⟨rfl, rfl⟩
set_option maxRecDepth 100000 in
theorem numL_74 (x : Int) (w : World) : Calls Tryz.prog 66 #[.iface 74 (.int .u16 x)] w fun e w' => e = .returned (.tuple #[.int .i64 (wrap64 x), .bool true]) ∧ w' = w := by
  have m0 := as74_2 (.int .u16 x)
  have m1 := as74_3 (.int .u16 x)
  have m2 := as74_71 (.int .u16 x)
  have m3 := as74_72 (.int .u16 x)
  have m4 := as74_21 (.int .u16 x)
  have m5 := as74_73 (.int .u16 x)
  have m6 := as74_5 (.int .u16 x)
  have m7 := as74_74 (.int .u16 x)
  go_enter Tryz.func66, Tryz.ntmps66
  go_wp2_with fail
  refine (indirect_74 _ _).mono ?_
  rintro e w1 ⟨rfl, rfl⟩
  go_wp2
  go_ret2
  exact ⟨rfl, rfl⟩
set_option maxRecDepth 100000 in
theorem numL_75 (x : Int) (w : World) : Calls Tryz.prog 66 #[.iface 75 (.int .u32 x)] w fun e w' => e = .returned (.tuple #[.int .i64 (wrap64 x), .bool true]) ∧ w' = w := by
  have m0 := as75_2 (.int .u32 x)
  have m1 := as75_3 (.int .u32 x)
  have m2 := as75_71 (.int .u32 x)
  have m3 := as75_72 (.int .u32 x)
  have m4 := as75_21 (.int .u32 x)
  have m5 := as75_73 (.int .u32 x)
  have m6 := as75_5 (.int .u32 x)
  have m7 := as75_74 (.int .u32 x)
  have m8 := as75_75 (.int .u32 x)
  go_enter Tryz.func66, Tryz.ntmps66
  go_wp2_with fail
  refine (indirect_75 _ _).mono ?_
  rintro e w1 ⟨rfl, rfl⟩
  go_wp2
  go_ret2
  exact ⟨rfl, rfl⟩
set_option maxRecDepth 100000 in
theorem numL_24 (x : Int) (w : World) : Calls Tryz.prog 66 #[.iface 24 (.int .u64 x)] w fun e w' => e = .returned (.tuple #[.int .i64 (wrap64 x), .bool true]) ∧ w' = w := by
  have m0 := as24_2 (.int .u64 x)
  have m1 := as24_3 (.int .u64 x)
  have m2 := as24_71 (.int .u64 x)
  have m3 := as24_72 (.int .u64 x)
  have m4 := as24_21 (.int .u64 x)
  have m5 := as24_73 (.int .u64 x)
  have m6 := as24_5 (.int .u64 x)
  have m7 := as24_74 (.int .u64 x)
  have m8 := as24_75 (.int .u64 x)
  have m9 := as24_24 (.int .u64 x)
  go_enter Tryz.func66, Tryz.ntmps66
  go_wp2_with fail
  refine (indirect_24 _ _).mono ?_
  rintro e w1 ⟨rfl, rfl⟩
  go_wp2
  go_ret2
  exact ⟨rfl, rfl⟩
set_option maxRecDepth 100000 in
theorem numL_76 (r : Nat) (n : Int) (hn : floatToIntVal .f32 r .i64 = some n) (w : World) : Calls Tryz.prog 66 #[.iface 76 (.float .f32 r)] w fun e w' => e = .returned (.tuple #[.int .i64 n, .bool true]) ∧ w' = w := by
  have m0 := as76_2 (.float .f32 r)
  have m1 := as76_3 (.float .f32 r)
  have m2 := as76_71 (.float .f32 r)
  have m3 := as76_72 (.float .f32 r)
  have m4 := as76_21 (.float .f32 r)
  have m5 := as76_73 (.float .f32 r)
  have m6 := as76_5 (.float .f32 r)
  have m7 := as76_74 (.float .f32 r)
  have m8 := as76_75 (.float .f32 r)
  have m9 := as76_24 (.float .f32 r)
  have m10 := as76_76 (.float .f32 r)
  have hc : ∀ w, (convert 76 2 (.float .f32 r)).run Tryz.prog w = .ok (.int .i64 n) w := fun w => run_convert_float_int w 76 2 .f32 .i64 r n (by rw [Tryz.underlying76]; rfl) Tryz.underlying2 hn
  go_enter Tryz.func66, Tryz.ntmps66
  go_wp2_with fail
  refine (indirect_76 _ _).mono ?_
  rintro e w1 ⟨rfl, rfl⟩
  go_wp2
  go_ret2
  exact ⟨rfl, rfl⟩
set_option maxRecDepth 100000 in
theorem numL_25 (r : Nat) (n : Int) (hn : floatToIntVal .f64 r .i64 = some n) (w : World) : Calls Tryz.prog 66 #[.iface 25 (.float .f64 r)] w fun e w' => e = .returned (.tuple #[.int .i64 n, .bool true]) ∧ w' = w := by
  have m0 := as25_2 (.float .f64 r)
  have m1 := as25_3 (.float .f64 r)
  have m2 := as25_71 (.float .f64 r)
  have m3 := as25_72 (.float .f64 r)
  have m4 := as25_21 (.float .f64 r)
  have m5 := as25_73 (.float .f64 r)
  have m6 := as25_5 (.float .f64 r)
  have m7 := as25_74 (.float .f64 r)
  have m8 := as25_75 (.float .f64 r)
  have m9 := as25_24 (.float .f64 r)
  have m10 := as25_76 (.float .f64 r)
  have m11 := as25_25 (.float .f64 r)
  have hc : ∀ w, (convert 25 2 (.float .f64 r)).run Tryz.prog w = .ok (.int .i64 n) w := fun w => run_convert_float_int w 25 2 .f64 .i64 r n (by rw [Tryz.underlying25]; rfl) Tryz.underlying2 hn
  go_enter Tryz.func66, Tryz.ntmps66
  go_wp2_with fail
  refine (indirect_25 _ _).mono ?_
  rintro e w1 ⟨rfl, rfl⟩
  go_wp2
  go_ret2
  exact ⟨rfl, rfl⟩
set_option maxRecDepth 100000 in
theorem numL_0  (w : World) : Calls Tryz.prog 66 #[.nilIface] w fun e w' => e = .returned (.tuple #[.int .i64 0, .bool true]) ∧ w' = w := by
  have m0 := asN_2
  have m1 := asN_3
  have m2 := asN_71
  have m3 := asN_72
  have m4 := asN_21
  have m5 := asN_73
  have m6 := asN_5
  have m7 := asN_74
  have m8 := asN_75
  have m9 := asN_24
  have m10 := asN_76
  have m11 := asN_25
  have m12 := asN_4
  go_enter Tryz.func66, Tryz.ntmps66
  go_wp2_with fail
  refine (indirect_nil _).mono ?_
  rintro e w1 ⟨rfl, rfl⟩
  go_wp2
  go_ret2
  exact ⟨rfl, rfl⟩
set_option maxRecDepth 100000 in
theorem numL_9 (s : ByteArray) (w : World) : Calls Tryz.prog 66 #[.iface 9 (.string s)] w fun e w' => e = .returned (.tuple #[.int .i64 0, .bool false]) ∧ w' = w := by
  have m0 := as9_2 (.string s)
  have m1 := as9_3 (.string s)
  have m2 := as9_71 (.string s)
  have m3 := as9_72 (.string s)
  have m4 := as9_21 (.string s)
  have m5 := as9_73 (.string s)
  have m6 := as9_5 (.string s)
  have m7 := as9_74 (.string s)
  have m8 := as9_75 (.string s)
  have m9 := as9_24 (.string s)
  have m10 := as9_76 (.string s)
  have m11 := as9_25 (.string s)
  have m12 := as9_4 (.string s)
  have m13 := as9_143 (.string s)
  have m14 := as9_144 (.string s)
  go_enter Tryz.func66, Tryz.ntmps66
  go_wp2_with fail
  refine (indirect_9 _ _).mono ?_
  rintro e w1 ⟨rfl, rfl⟩
  go_wp2
  go_ret2
  exact ⟨rfl, rfl⟩
set_option maxRecDepth 100000 in
theorem parseL_any (s : ByteArray) (hs : s.size ≤ 400) : ∃ r : Option Int, ∀ w, ErrVars w → Calls Tryz.prog 32 #[.string s] w fun e w' => (∃ v, e = .returned v ∧ Ends r v) ∧ Below w.heap.size w w' := by
  obtain ⟨t, ht, htl⟩ := trim_tot s (by omega)
  have hT := fun W => cast_trimDecimal.calls 5000 s t W ht
  obtain ⟨r, hr, hP⟩ := parseInt_any t (by omega)
  clear ht
  cases r with
  | none =>
    refine ⟨none, fun w hE => ?_⟩
    have HE := Lib.hid hE
    clear hE
    go_enter Tryz.func32, Tryz.ntmps32
    go_wp2_with (go_at_call 68; refine (hT _).mono ?_; rintro e w1 ⟨rfl, hd⟩)
    have hb1 := below_drawn hd
    have hE1 := Lib.hid (HE.out.below HE.out.five hb1)
    clear hd
    go_wp2_with (go_at_call 67; refine (hP _ hE1.out).mono ?_; rintro e w2 ⟨⟨v, rfl, y, ty, p, rfl⟩, hb2⟩)
    go_wp2
    go_ret2
    exact ⟨⟨_, rfl, _, _, _, rfl⟩, hb1.trans (hb2.mono hb1.size)⟩
  | some x =>
    have hx := hr x rfl
    have hw : wrap64 x = x := by unfold wrap64; omega
    clear hx hr
    refine ⟨some x, fun w hE => ?_⟩
    have HE := Lib.hid hE
    clear hE
    go_enter Tryz.func32, Tryz.ntmps32
    go_wp2_with (go_at_call 68; refine (hT _).mono ?_; rintro e w1 ⟨rfl, hd⟩)
    have hb1 := below_drawn hd
    have hE1 := Lib.hid (HE.out.below HE.out.five hb1)
    clear hd
    go_wp2_with (go_at_call 67; refine (hP _ hE1.out).mono ?_; rintro e w2 ⟨⟨v, rfl, rfl⟩, hb2⟩)
    go_wp2
    go_ret2
    exact ⟨⟨_, rfl, by first | rfl | (simp only [hw]; rfl)⟩, hb1.trans (hb2.mono hb1.size)⟩
/-- A value of which toNumber makes a number. -/
def NumI (v : Value) (y : Int) : Prop := ∀ W, Calls Tryz.prog 71 #[v] W fun e w' => e = .returned (.tuple #[.int .i64 y, .bool true]) ∧ w' = W
set_option maxRecDepth 100000 in
theorem numEI_of (v : Value) (y : Int) (h : NumI v y) (f : Value) (w : World) : Calls Tryz.prog 51 #[v, f] w fun e w' => e = .returned (.tuple #[.int .i64 y, .nilIface]) ∧ w' = w := by
  unfold NumI at h
  go_enter Tryz.func51, Tryz.ntmps51
  go_wp2_with fail
  refine (h _).mono ?_
  rintro e w1 ⟨rfl, rfl⟩
  go_wp2
  go_ret2
  exact ⟨rfl, rfl⟩
set_option maxRecDepth 100000 in
theorem numI_4 (b : Bool) (w : World) : Calls Tryz.prog 71 #[.iface 4 (.bool b)] w fun e w' => e = .returned (.tuple #[.int .i64 (if b then 1 else 0), .bool true]) ∧ w' = w := by
  have m0 := as4_3 (.bool b)
  have m1 := as4_71 (.bool b)
  have m2 := as4_72 (.bool b)
  have m3 := as4_21 (.bool b)
  have m4 := as4_2 (.bool b)
  have m5 := as4_73 (.bool b)
  have m6 := as4_5 (.bool b)
  have m7 := as4_74 (.bool b)
  have m8 := as4_75 (.bool b)
  have m9 := as4_24 (.bool b)
  have m10 := as4_76 (.bool b)
  have m11 := as4_25 (.bool b)
  have m12 := as4_4 (.bool b)
  go_enter Tryz.func71, Tryz.ntmps71
  go_wp2_with fail
  refine (indirect_4 _ _).mono ?_
  rintro e w1 ⟨rfl, rfl⟩
  cases b
  · go_wp2
    go_ret2
    exact ⟨rfl, rfl⟩
  · go_wp2
    go_ret2
    exact ⟨rfl, rfl⟩
set_option maxRecDepth 100000 in
theorem numI_3 (x : Int) (w : World) : Calls Tryz.prog 71 #[.iface 3 (.int .i64 x)] w fun e w' => e = .returned (.tuple #[.int .i64 x, .bool true]) ∧ w' = w := by
  have m0 := as3_3 (.int .i64 x)
  go_enter Tryz.func71, Tryz.ntmps71
  go_wp2_with fail
  refine (indirect_3 _ _).mono ?_
  rintro e w1 ⟨rfl, rfl⟩
  go_wp2
  go_ret2
  exact ⟨rfl, rfl⟩
set_option maxRecDepth 100000 in
theorem numI_71 (x : Int) (w : World) : Calls Tryz.prog 71 #[.iface 71 (.int .i8 x)] w fun e w' => e = .returned (.tuple #[.int .i64 (wrap64 x), .bool true]) ∧ w' = w := by
  have m0 := as71_3 (.int .i8 x)
  have m1 := as71_71 (.int .i8 x)
  go_enter Tryz.func71, Tryz.ntmps71
  go_wp2_with fail
  refine (indirect_71 _ _).mono ?_
  rintro e w1 ⟨rfl, rfl⟩
  go_wp2
  go_ret2
  exact ⟨rfl, rfl⟩
set_option maxRecDepth 100000 in
theorem numI_72 (x : Int) (w : World) : Calls Tryz.prog 71 #[.iface 72 (.int .i16 x)] w fun e w' => e = .returned (.tuple #[.int .i64 (wrap64 x), .bool true]) ∧ w' = w := by
  have m0 := as72_3 (.int .i16 x)
  have m1 := as72_71 (.int .i16 x)
  have m2 := as72_72 (.int .i16 x)
  go_enter Tryz.func71, Tryz.ntmps71
  go_wp2_with fail
  refine (indirect_72 _ _).mono ?_
  rintro e w1 ⟨rfl, rfl⟩
  go_wp2
  go_ret2
  exact ⟨rfl, rfl⟩
set_option maxRecDepth 100000 in
theorem numI_21 (x : Int) (w : World) : Calls Tryz.prog 71 #[.iface 21 (.int .i32 x)] w fun e w' => e = .returned (.tuple #[.int .i64 (wrap64 x), .bool true]) ∧ w' = w := by
  have m0 := as21_3 (.int .i32 x)
  have m1 := as21_71 (.int .i32 x)
  have m2 := as21_72 (.int .i32 x)
  have m3 := as21_21 (.int .i32 x)
  go_enter Tryz.func71, Tryz.ntmps71
  go_wp2_with fail
  refine (indirect_21 _ _).mono ?_
  rintro e w1 ⟨rfl, rfl⟩
  go_wp2
  go_ret2
  exact ⟨rfl, rfl⟩
set_option maxRecDepth 100000 in
theorem numI_2 (x : Int) (w : World) : Calls Tryz.prog 71 #[.iface 2 (.int .i64 x)] w fun e w' => e = .returned (.tuple #[.int .i64 x, .bool true]) ∧ w' = w := by
  have m0 := as2_3 (.int .i64 x)
  have m1 := as2_71 (.int .i64 x)
  have m2 := as2_72 (.int .i64 x)
  have m3 := as2_21 (.int .i64 x)
  have m4 := as2_2 (.int .i64 x)
  go_enter Tryz.func71, Tryz.ntmps71
  go_wp2_with fail
  refine (indirect_2 _ _).mono ?_
  rintro e w1 ⟨rfl, rfl⟩
  go_wp2
  go_ret2
  exact ⟨rfl, rfl⟩
set_option maxRecDepth 100000 in
theorem numI_73 (x : Int) (w : World) : Calls Tryz.prog 71 #[.iface 73 (.int .u64 x)] w fun e w' => e = .returned (.tuple #[.int .i64 (wrap64 x), .bool true]) ∧ w' = w := by
  have m0 := as73_3 (.int .u64 x)
  have m1 := as73_71 (.int .u64 x)
  have m2 := as73_72 (.int .u64 x)
  have m3 := as73_21 (.int .u64 x)
  have m4 := as73_2 (.int .u64 x)
  have m5 := as73_73 (.int .u64 x)
  go_enter Tryz.func71, Tryz.ntmps71
  go_wp2_with fail
  refine (indirect_73 _ _).mono ?_
  rintro e w1 ⟨rfl, rfl⟩
  go_wp2
  go_ret2
  exact ⟨rfl, rfl⟩
set_option maxRecDepth 100000 in
theorem numI_5 (x : Int) (w : World) : Calls Tryz.prog 71 #[.iface 5 (.int .u8 x)] w fun e w' => e = .returned (.tuple #[.int .i64 (wrap64 x), .bool true]) ∧ w' = w := by
  have m0 := as5_3 (.int .u8 x)
  have m1 := as5_71 (.int .u8 x)
  have m2 := as5_72 (.int .u8 x)
  have m3 := as5_21 (.int .u8 x)
  have m4 := as5_2 (.int .u8 x)
  have m5 := as5_73 (.int .u8 x)
  have m6 := as5_5 (.int .u8 x)
  go_enter Tryz.func71, Tryz.ntmps71
  go_wp2_with fail
  refine (indirect_5 _ _).mono ?_
  rintro e w1 ⟨rfl, rfl⟩
  go_wp2
  go_ret2
  exact ⟨rfl, rfl⟩
set_option maxRecDepth 100000 in
theorem numI_74 (x : Int) (w : World) : Calls Tryz.prog 71 #[.iface 74 (.int .u16 x)] w fun e w' => e = .returned (.tuple #[.int .i64 (wrap64 x), .bool true]) ∧ w' = w := by
  have m0 := as74_3 (.int .u16 x)
  have m1 := as74_71 (.int .u16 x)
  have m2 := as74_72 (.int .u16 x)
  have m3 := as74_21 (.int .u16 x)
  have m4 := as74_2 (.int .u16 x)
  have m5 := as74_73 (.int .u16 x)
  have m6 := as74_5 (.int .u16 x)
  have m7 := as74_74 (.int .u16 x)
  go_enter Tryz.func71, Tryz.ntmps71
  go_wp2_with fail
  refine (indirect_74 _ _).mono ?_
  rintro e w1 ⟨rfl, rfl⟩
  go_wp2
  go_ret2
  exact ⟨rfl, rfl⟩
set_option maxRecDepth 100000 in
theorem numI_75 (x : Int) (w : World) : Calls Tryz.prog 71 #[.iface 75 (.int .u32 x)] w fun e w' => e = .returned (.tuple #[.int .i64 (wrap64 x), .bool true]) ∧ w' = w := by
  have m0 := as75_3 (.int .u32 x)
  have m1 := as75_71 (.int .u32 x)
  have m2 := as75_72 (.int .u32 x)
  have m3 := as75_21 (.int .u32 x)
  have m4 := as75_2 (.int .u32 x)
  have m5 := as75_73 (.int .u32 x)
  have m6 := as75_5 (.int .u32 x)
  have m7 := as75_74 (.int .u32 x)
  have m8 := as75_75 (.int .u32 x)
  go_enter Tryz.func71, Tryz.ntmps71
  go_wp2_with fail
  refine (indirect_75 _ _).mono ?_
  rintro e w1 ⟨rfl, rfl⟩
  go_wp2
  go_ret2
  exact ⟨rfl, rfl⟩
set_option maxRecDepth 100000 in
theorem numI_24 (x : Int) (w : World) : Calls Tryz.prog 71 #[.iface 24 (.int .u64 x)] w fun e w' => e = .returned (.tuple #[.int .i64 (wrap64 x), .bool true]) ∧ w' = w := by
  have m0 := as24_3 (.int .u64 x)
  have m1 := as24_71 (.int .u64 x)
  have m2 := as24_72 (.int .u64 x)
  have m3 := as24_21 (.int .u64 x)
  have m4 := as24_2 (.int .u64 x)
  have m5 := as24_73 (.int .u64 x)
  have m6 := as24_5 (.int .u64 x)
  have m7 := as24_74 (.int .u64 x)
  have m8 := as24_75 (.int .u64 x)
  have m9 := as24_24 (.int .u64 x)
  go_enter Tryz.func71, Tryz.ntmps71
  go_wp2_with fail
  refine (indirect_24 _ _).mono ?_
  rintro e w1 ⟨rfl, rfl⟩
  go_wp2
  go_ret2
  exact ⟨rfl, rfl⟩
set_option maxRecDepth 100000 in
theorem numI_76 (r : Nat) (n : Int) (hn : floatToIntVal .f32 r .i64 = some n) (w : World) : Calls Tryz.prog 71 #[.iface 76 (.float .f32 r)] w fun e w' => e = .returned (.tuple #[.int .i64 n, .bool true]) ∧ w' = w := by
  have m0 := as76_3 (.float .f32 r)
  have m1 := as76_71 (.float .f32 r)
  have m2 := as76_72 (.float .f32 r)
  have m3 := as76_21 (.float .f32 r)
  have m4 := as76_2 (.float .f32 r)
  have m5 := as76_73 (.float .f32 r)
  have m6 := as76_5 (.float .f32 r)
  have m7 := as76_74 (.float .f32 r)
  have m8 := as76_75 (.float .f32 r)
  have m9 := as76_24 (.float .f32 r)
  have m10 := as76_76 (.float .f32 r)
  have hc : ∀ w, (convert 76 3 (.float .f32 r)).run Tryz.prog w = .ok (.int .i64 n) w := fun w => run_convert_float_int w 76 3 .f32 .i64 r n (by rw [Tryz.underlying76]; rfl) Tryz.underlying3 hn
  go_enter Tryz.func71, Tryz.ntmps71
  go_wp2_with fail
  refine (indirect_76 _ _).mono ?_
  rintro e w1 ⟨rfl, rfl⟩
  go_wp2
  go_ret2
  exact ⟨rfl, rfl⟩
set_option maxRecDepth 100000 in
theorem numI_25 (r : Nat) (n : Int) (hn : floatToIntVal .f64 r .i64 = some n) (w : World) : Calls Tryz.prog 71 #[.iface 25 (.float .f64 r)] w fun e w' => e = .returned (.tuple #[.int .i64 n, .bool true]) ∧ w' = w := by
  have m0 := as25_3 (.float .f64 r)
  have m1 := as25_71 (.float .f64 r)
  have m2 := as25_72 (.float .f64 r)
  have m3 := as25_21 (.float .f64 r)
  have m4 := as25_2 (.float .f64 r)
  have m5 := as25_73 (.float .f64 r)
  have m6 := as25_5 (.float .f64 r)
  have m7 := as25_74 (.float .f64 r)
  have m8 := as25_75 (.float .f64 r)
  have m9 := as25_24 (.float .f64 r)
  have m10 := as25_76 (.float .f64 r)
  have m11 := as25_25 (.float .f64 r)
  have hc : ∀ w, (convert 25 3 (.float .f64 r)).run Tryz.prog w = .ok (.int .i64 n) w := fun w => run_convert_float_int w 25 3 .f64 .i64 r n (by rw [Tryz.underlying25]; rfl) Tryz.underlying3 hn
  go_enter Tryz.func71, Tryz.ntmps71
  go_wp2_with fail
  refine (indirect_25 _ _).mono ?_
  rintro e w1 ⟨rfl, rfl⟩
  go_wp2
  go_ret2
  exact ⟨rfl, rfl⟩
set_option maxRecDepth 100000 in
theorem numI_0  (w : World) : Calls Tryz.prog 71 #[.nilIface] w fun e w' => e = .returned (.tuple #[.int .i64 0, .bool true]) ∧ w' = w := by
  have m0 := asN_3
  have m1 := asN_71
  have m2 := asN_72
  have m3 := asN_21
  have m4 := asN_2
  have m5 := asN_73
  have m6 := asN_5
  have m7 := asN_74
  have m8 := asN_75
  have m9 := asN_24
  have m10 := asN_76
  have m11 := asN_25
  have m12 := asN_4
  go_enter Tryz.func71, Tryz.ntmps71
  go_wp2_with fail
  refine (indirect_nil _).mono ?_
  rintro e w1 ⟨rfl, rfl⟩
  go_wp2
  go_ret2
  exact ⟨rfl, rfl⟩
set_option maxRecDepth 100000 in
theorem numI_9 (s : ByteArray) (w : World) : Calls Tryz.prog 71 #[.iface 9 (.string s)] w fun e w' => e = .returned (.tuple #[.int .i64 0, .bool false]) ∧ w' = w := by
  have m0 := as9_3 (.string s)
  have m1 := as9_71 (.string s)
  have m2 := as9_72 (.string s)
  have m3 := as9_21 (.string s)
  have m4 := as9_2 (.string s)
  have m5 := as9_73 (.string s)
  have m6 := as9_5 (.string s)
  have m7 := as9_74 (.string s)
  have m8 := as9_75 (.string s)
  have m9 := as9_24 (.string s)
  have m10 := as9_76 (.string s)
  have m11 := as9_25 (.string s)
  have m12 := as9_4 (.string s)
  have m13 := as9_143 (.string s)
  have m14 := as9_144 (.string s)
  go_enter Tryz.func71, Tryz.ntmps71
  go_wp2_with fail
  refine (indirect_9 _ _).mono ?_
  rintro e w1 ⟨rfl, rfl⟩
  go_wp2
  go_ret2
  exact ⟨rfl, rfl⟩
set_option maxRecDepth 100000 in
theorem parseI_any (s : ByteArray) (hs : s.size ≤ 400) : ∃ r : Option Int, ∀ w, ErrVars w → Calls Tryz.prog 52 #[.string s] w fun e w' => (∃ v, e = .returned v ∧ Ends r v) ∧ Below w.heap.size w w' := by
  obtain ⟨t, ht, htl⟩ := trim_tot s (by omega)
  have hT := fun W => cast_trimDecimal.calls 5000 s t W ht
  obtain ⟨r, hr, hP⟩ := parseInt_any t (by omega)
  clear ht
  cases r with
  | none =>
    refine ⟨none, fun w hE => ?_⟩
    have HE := Lib.hid hE
    clear hE
    go_enter Tryz.func52, Tryz.ntmps52
    go_wp2_with (go_at_call 68; refine (hT _).mono ?_; rintro e w1 ⟨rfl, hd⟩)
    have hb1 := below_drawn hd
    have hE1 := Lib.hid (HE.out.below HE.out.five hb1)
    clear hd
    go_wp2_with (go_at_call 67; refine (hP _ hE1.out).mono ?_; rintro e w2 ⟨⟨v, rfl, y, ty, p, rfl⟩, hb2⟩)
    go_wp2
    go_ret2
    exact ⟨⟨_, rfl, _, _, _, rfl⟩, hb1.trans (hb2.mono hb1.size)⟩
  | some x =>
    have hx := hr x rfl
    have hw : wrap64 x = x := by unfold wrap64; omega
    clear hx hr
    refine ⟨some x, fun w hE => ?_⟩
    have HE := Lib.hid hE
    clear hE
    go_enter Tryz.func52, Tryz.ntmps52
    go_wp2_with (go_at_call 68; refine (hT _).mono ?_; rintro e w1 ⟨rfl, hd⟩)
    have hb1 := below_drawn hd
    have hE1 := Lib.hid (HE.out.below HE.out.five hb1)
    clear hd
    go_wp2_with (go_at_call 67; refine (hP _ hE1.out).mono ?_; rintro e w2 ⟨⟨v, rfl, rfl⟩, hb2⟩)
    go_wp2
    go_ret2
    exact ⟨⟨_, rfl, by first | rfl | (simp only [hw]; rfl)⟩, hb1.trans (hb2.mono hb1.size)⟩
end Go.Proofs.YtcfknhboicomjaaGreatDoor.Ca
