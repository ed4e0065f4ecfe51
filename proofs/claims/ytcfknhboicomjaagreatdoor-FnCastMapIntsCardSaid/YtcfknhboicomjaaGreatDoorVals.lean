/- impl.value at plain kinds: the value that an Any says. -/
import Derived.Test.YtcfknhboicomjaaGreatDoorCast2
namespace Go.Proofs.YtcfknhboicomjaaGreatDoor.Ca
open Go.RowKit Fl

/-- An impl.Any as a value; l, m: its slices. -/
def anyW (k i u : Int) (f : Nat) (s : ByteArray) (l m : Value) : Value := .agg #[.int .i64 k, .int .i64 i, .int .u64 u, .float .f64 f, .string s, l, m]
/-- A plain Any. -/
def anyV (k i u : Int) (f : Nat) (s : ByteArray) : Value := .agg #[.int .i64 k, .int .i64 i, .int .u64 u, .float .f64 f, .string s, .slice none 0 0, .slice none 0 0]
theorem al_b (w : World) (o : Obj) : Below w.heap.size w (w.alloc o) := (Below.refl _ w).alloc (Nat.le_refl _) o
set_option maxRecDepth 100000 in
theorem value_0 (i u : Int) (f : Nat) (s : ByteArray) (w : World) : Calls Tryz.prog 20 #[anyV 0 i u f s] w fun e w' => e = .returned (.nilIface) ∧ Below w.heap.size w w' := by
  unfold anyV
  go_enter Tryz.func20, Tryz.ntmps20
  go_wp2
  go_ret
  exact ⟨rfl, al_b _ _⟩
set_option maxRecDepth 100000 in
theorem value_1 (i u : Int) (f : Nat) (s : ByteArray) (w : World) : Calls Tryz.prog 20 #[anyV 1 i u f s] w fun e w' => e = .returned (.iface 4 (.bool (i != 0))) ∧ Below w.heap.size w w' := by
  unfold anyV
  go_enter Tryz.func20, Tryz.ntmps20
  go_wp2
  go_ret
  exact ⟨rfl, al_b _ _⟩
set_option maxRecDepth 100000 in
theorem value_2 (i u : Int) (f : Nat) (s : ByteArray) (w : World) : Calls Tryz.prog 20 #[anyV 2 i u f s] w fun e w' => e = .returned (.iface 3 (.int .i64 i)) ∧ Below w.heap.size w w' := by
  unfold anyV
  go_enter Tryz.func20, Tryz.ntmps20
  go_wp2
  go_ret
  exact ⟨rfl, al_b _ _⟩
set_option maxRecDepth 100000 in
theorem value_3 (i u : Int) (f : Nat) (s : ByteArray) (w : World) : Calls Tryz.prog 20 #[anyV 3 i u f s] w fun e w' => e = .returned (.iface 71 (.int .i8 (IntKind.i8.wrap i))) ∧ Below w.heap.size w w' := by
  unfold anyV
  go_enter Tryz.func20, Tryz.ntmps20
  go_wp2
  go_ret
  exact ⟨rfl, al_b _ _⟩
set_option maxRecDepth 100000 in
theorem value_4 (i u : Int) (f : Nat) (s : ByteArray) (w : World) : Calls Tryz.prog 20 #[anyV 4 i u f s] w fun e w' => e = .returned (.iface 72 (.int .i16 (IntKind.i16.wrap i))) ∧ Below w.heap.size w w' := by
  unfold anyV
  go_enter Tryz.func20, Tryz.ntmps20
  go_wp2
  go_ret
  exact ⟨rfl, al_b _ _⟩
set_option maxRecDepth 100000 in
theorem value_5 (i u : Int) (f : Nat) (s : ByteArray) (w : World) : Calls Tryz.prog 20 #[anyV 5 i u f s] w fun e w' => e = .returned (.iface 21 (.int .i32 (wrap32 i))) ∧ Below w.heap.size w w' := by
  unfold anyV
  go_enter Tryz.func20, Tryz.ntmps20
  go_wp2
  go_ret
  exact ⟨rfl, al_b _ _⟩
set_option maxRecDepth 100000 in
theorem value_6 (i u : Int) (f : Nat) (s : ByteArray) (w : World) : Calls Tryz.prog 20 #[anyV 6 i u f s] w fun e w' => e = .returned (.iface 2 (.int .i64 i)) ∧ Below w.heap.size w w' := by
  unfold anyV
  go_enter Tryz.func20, Tryz.ntmps20
  go_wp2
  go_ret
  exact ⟨rfl, al_b _ _⟩
set_option maxRecDepth 100000 in
theorem value_7 (i u : Int) (f : Nat) (s : ByteArray) (w : World) : Calls Tryz.prog 20 #[anyV 7 i u f s] w fun e w' => e = .returned (.iface 73 (.int .u64 u)) ∧ Below w.heap.size w w' := by
  unfold anyV
  go_enter Tryz.func20, Tryz.ntmps20
  go_wp2
  go_ret
  exact ⟨rfl, al_b _ _⟩
set_option maxRecDepth 100000 in
theorem value_8 (i u : Int) (f : Nat) (s : ByteArray) (w : World) : Calls Tryz.prog 20 #[anyV 8 i u f s] w fun e w' => e = .returned (.iface 5 (.int .u8 (IntKind.u8.wrap u))) ∧ Below w.heap.size w w' := by
  unfold anyV
  go_enter Tryz.func20, Tryz.ntmps20
  go_wp2
  go_ret
  exact ⟨rfl, al_b _ _⟩
set_option maxRecDepth 100000 in
theorem value_9 (i u : Int) (f : Nat) (s : ByteArray) (w : World) : Calls Tryz.prog 20 #[anyV 9 i u f s] w fun e w' => e = .returned (.iface 74 (.int .u16 (IntKind.u16.wrap u))) ∧ Below w.heap.size w w' := by
  unfold anyV
  go_enter Tryz.func20, Tryz.ntmps20
  go_wp2
  go_ret
  exact ⟨rfl, al_b _ _⟩
set_option maxRecDepth 100000 in
theorem value_10 (i u : Int) (f : Nat) (s : ByteArray) (w : World) : Calls Tryz.prog 20 #[anyV 10 i u f s] w fun e w' => e = .returned (.iface 75 (.int .u32 (IntKind.u32.wrap u))) ∧ Below w.heap.size w w' := by
  unfold anyV
  go_enter Tryz.func20, Tryz.ntmps20
  go_wp2
  go_ret
  exact ⟨rfl, al_b _ _⟩
set_option maxRecDepth 100000 in
theorem value_11 (i u : Int) (f : Nat) (s : ByteArray) (w : World) : Calls Tryz.prog 20 #[anyV 11 i u f s] w fun e w' => e = .returned (.iface 24 (.int .u64 u)) ∧ Below w.heap.size w w' := by
  unfold anyV
  go_enter Tryz.func20, Tryz.ntmps20
  go_wp2
  go_ret
  exact ⟨rfl, al_b _ _⟩
set_option maxRecDepth 100000 in
theorem value_12 (i u : Int) (f : Nat) (s : ByteArray) (r : Nat) (hr : floatToFloatBits .f64 f .f32 = some r) (w : World) : Calls Tryz.prog 20 #[anyV 12 i u f s] w fun e w' => e = .returned (.iface 76 (.float .f32 r)) ∧ Below w.heap.size w w' := by
  have hc : ∀ w, (convert 25 76 (.float .f64 f)).run Tryz.prog w = .ok (.float .f32 r) w := fun w => run_convert_float_float w 25 76 .f64 .f32 f r (by rw [Tryz.underlying25]; rfl) Tryz.underlying76 hr
  unfold anyV
  go_enter Tryz.func20, Tryz.ntmps20
  go_wp2
  go_ret
  exact ⟨rfl, al_b _ _⟩
set_option maxRecDepth 100000 in
theorem value_13 (i u : Int) (f : Nat) (s : ByteArray) (w : World) : Calls Tryz.prog 20 #[anyV 13 i u f s] w fun e w' => e = .returned (.iface 25 (.float .f64 f)) ∧ Below w.heap.size w w' := by
  unfold anyV
  go_enter Tryz.func20, Tryz.ntmps20
  go_wp2
  go_ret
  exact ⟨rfl, al_b _ _⟩
set_option maxRecDepth 100000 in
theorem value_14 (i u : Int) (f : Nat) (s : ByteArray) (w : World) : Calls Tryz.prog 20 #[anyV 14 i u f s] w fun e w' => e = .returned (.iface 9 (.string s)) ∧ Below w.heap.size w w' := by
  unfold anyV
  go_enter Tryz.func20, Tryz.ntmps20
  go_wp2
  go_ret
  exact ⟨rfl, al_b _ _⟩

theorem value_any (k i u : Int) (f : Nat) (s : ByteArray) (h0 : 0 ≤ k) (h1 : k ≤ 14) (hf : FloatOk f) (hs : s.size ≤ 400) :
    ∃ v, Plain v ∧ ∀ w, Calls Tryz.prog 20 #[anyV k i u f s] w fun e w' => e = .returned v ∧ Below w.heap.size w w' := by
  have hk : k = 0 ∨ k = 1 ∨ k = 2 ∨ k = 3 ∨ k = 4 ∨ k = 5 ∨ k = 6 ∨ k = 7 ∨ k = 8 ∨ k = 9 ∨ k = 10 ∨ k = 11 ∨ k = 12 ∨ k = 13 ∨ k = 14 := by omega
  rcases hk with rfl | rfl | rfl | rfl | rfl | rfl | rfl | rfl | rfl | rfl | rfl | rfl | rfl | rfl | rfl
  · exact ⟨_, Plain.nil, value_0 i u f s⟩
  · exact ⟨_, Plain.k4 _, value_1 i u f s⟩
  · exact ⟨_, Plain.k3 _, value_2 i u f s⟩
  · exact ⟨_, Plain.k71 _, value_3 i u f s⟩
  · exact ⟨_, Plain.k72 _, value_4 i u f s⟩
  · exact ⟨_, Plain.k21 _, value_5 i u f s⟩
  · exact ⟨_, Plain.k2 _, value_6 i u f s⟩
  · exact ⟨_, Plain.k73 _, value_7 i u f s⟩
  · exact ⟨_, Plain.k5 _, value_8 i u f s⟩
  · exact ⟨_, Plain.k74 _, value_9 i u f s⟩
  · exact ⟨_, Plain.k75 _, value_10 i u f s⟩
  · exact ⟨_, Plain.k24 _, value_11 i u f s⟩
  · obtain ⟨r, n, hr, hn⟩ := f64_f32 hf
    exact ⟨_, Plain.k76 r n hn, value_12 i u f s r hr⟩
  · obtain ⟨n, hn⟩ := f64_int hf
    exact ⟨_, Plain.k25 f n hn, value_13 i u f s⟩
  · exact ⟨_, Plain.k9 s hs, value_14 i u f s⟩
end Go.Proofs.YtcfknhboicomjaaGreatDoor.Ca
