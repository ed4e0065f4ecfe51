/- Facts: what a type assertion with comma-ok gives, at the types that the walks meet. -/
import Derived.Test.YtigfkbeiaphjfaaGreatDoorChecked
import Derived.Stop.Asserts
import Derived.KernelRfl
namespace Go.Proofs.YtigfkbeiaphjfaaGreatDoor.Ca

def isIfaceB (U : TypeDesc) : Bool := match U with | .interface _ => true | _ => false
theorem assert_hit {P : Program} {t xT : TypeId} {U : TypeDesc} (hu : P.underlying t = some U) (hi : isIfaceB U = false) (v : Value) (w : World) :
    (Instr.typeAssert (.iface t v) xT t true).run P w = .ok (.tuple #[v, .bool true]) w := by
  cases U <;> first | (simp [Instr.typeAssert, run_underlying hu]; done) | cases hi
theorem assert_miss {P : Program} {t a xT : TypeId} {z : Value} {U : TypeDesc} (hu : P.underlying a = some U) (hi : isIfaceB U = false) (hne : t ≠ a) (hz : (P.info? a).map (·.zero) = some (some z)) (v : Value) (w : World) :
    (Instr.typeAssert (.iface t v) xT a true).run P w = .ok (.tuple #[z, .bool false]) w := by
  obtain ⟨j, hj, hz⟩ := Option.map_eq_some_iff.1 hz
  cases U <;> first | (simp [Instr.typeAssert, run_underlying hu, hne, zeroValue, typeInfo, hj, hz]; done) | cases hi

theorem as9_9 (v : Value) (w : World) : (Instr.typeAssert (.iface 9 v) 20 9 true).run Tryz.prog w = .ok (.tuple #[v, .bool true]) w := assert_hit Tryz.underlying9 (by kernel_rfl) v w
theorem as4_4 (v : Value) (w : World) : (Instr.typeAssert (.iface 4 v) 20 4 true).run Tryz.prog w = .ok (.tuple #[v, .bool true]) w := assert_hit Tryz.underlying4 (by kernel_rfl) v w
theorem as4_94 (v : Value) (w : World) : (Instr.typeAssert (.iface 4 v) 20 94 true).run Tryz.prog w = .ok (.tuple #[.pointer none, .bool false]) w := assert_miss Tryz.underlying94 (by kernel_rfl) (by decide) (by kernel_rfl) v w
theorem as4_95 (v : Value) (w : World) : (Instr.typeAssert (.iface 4 v) 20 95 true).run Tryz.prog w = .ok (.tuple #[.pointer none, .bool false]) w := assert_miss Tryz.underlying95 (by kernel_rfl) (by decide) (by kernel_rfl) v w
theorem as3_9 (v : Value) (w : World) : (Instr.typeAssert (.iface 3 v) 20 9 true).run Tryz.prog w = .ok (.tuple #[.string ⟨#[]⟩, .bool false]) w := assert_miss Tryz.underlying9 (by kernel_rfl) (by decide) (by kernel_rfl) v w
theorem as3_4 (v : Value) (w : World) : (Instr.typeAssert (.iface 3 v) 20 4 true).run Tryz.prog w = .ok (.tuple #[.bool false, .bool false]) w := assert_miss Tryz.underlying4 (by kernel_rfl) (by decide) (by kernel_rfl) v w
theorem as3_23 (v : Value) (w : World) : (Instr.typeAssert (.iface 3 v) 20 23 true).run Tryz.prog w = .ok (.tuple #[.float .f64 0, .bool false]) w := assert_miss Tryz.underlying23 (by kernel_rfl) (by decide) (by kernel_rfl) v w
theorem as3_60 (v : Value) (w : World) : (Instr.typeAssert (.iface 3 v) 20 60 true).run Tryz.prog w = .ok (.tuple #[.float .f32 0, .bool false]) w := assert_miss Tryz.underlying60 (by kernel_rfl) (by decide) (by kernel_rfl) v w
theorem as3_3 (v : Value) (w : World) : (Instr.typeAssert (.iface 3 v) 20 3 true).run Tryz.prog w = .ok (.tuple #[v, .bool true]) w := assert_hit Tryz.underlying3 (by kernel_rfl) v w
theorem as3_94 (v : Value) (w : World) : (Instr.typeAssert (.iface 3 v) 20 94 true).run Tryz.prog w = .ok (.tuple #[.pointer none, .bool false]) w := assert_miss Tryz.underlying94 (by kernel_rfl) (by decide) (by kernel_rfl) v w
theorem as3_95 (v : Value) (w : World) : (Instr.typeAssert (.iface 3 v) 20 95 true).run Tryz.prog w = .ok (.tuple #[.pointer none, .bool false]) w := assert_miss Tryz.underlying95 (by kernel_rfl) (by decide) (by kernel_rfl) v w
theorem as94_9 (v : Value) (w : World) : (Instr.typeAssert (.iface 94 v) 20 9 true).run Tryz.prog w = .ok (.tuple #[.string ⟨#[]⟩, .bool false]) w := assert_miss Tryz.underlying9 (by kernel_rfl) (by decide) (by kernel_rfl) v w
theorem as94_4 (v : Value) (w : World) : (Instr.typeAssert (.iface 94 v) 20 4 true).run Tryz.prog w = .ok (.tuple #[.bool false, .bool false]) w := assert_miss Tryz.underlying4 (by kernel_rfl) (by decide) (by kernel_rfl) v w
theorem as94_23 (v : Value) (w : World) : (Instr.typeAssert (.iface 94 v) 20 23 true).run Tryz.prog w = .ok (.tuple #[.float .f64 0, .bool false]) w := assert_miss Tryz.underlying23 (by kernel_rfl) (by decide) (by kernel_rfl) v w
theorem as94_60 (v : Value) (w : World) : (Instr.typeAssert (.iface 94 v) 20 60 true).run Tryz.prog w = .ok (.tuple #[.float .f32 0, .bool false]) w := assert_miss Tryz.underlying60 (by kernel_rfl) (by decide) (by kernel_rfl) v w
theorem as94_3 (v : Value) (w : World) : (Instr.typeAssert (.iface 94 v) 20 3 true).run Tryz.prog w = .ok (.tuple #[.int .i64 0, .bool false]) w := assert_miss Tryz.underlying3 (by kernel_rfl) (by decide) (by kernel_rfl) v w
theorem as94_62 (v : Value) (w : World) : (Instr.typeAssert (.iface 94 v) 20 62 true).run Tryz.prog w = .ok (.tuple #[.int .i8 0, .bool false]) w := assert_miss Tryz.underlying62 (by kernel_rfl) (by decide) (by kernel_rfl) v w
theorem as94_64 (v : Value) (w : World) : (Instr.typeAssert (.iface 94 v) 20 64 true).run Tryz.prog w = .ok (.tuple #[.int .i16 0, .bool false]) w := assert_miss Tryz.underlying64 (by kernel_rfl) (by decide) (by kernel_rfl) v w
theorem as94_21 (v : Value) (w : World) : (Instr.typeAssert (.iface 94 v) 20 21 true).run Tryz.prog w = .ok (.tuple #[.int .i32 0, .bool false]) w := assert_miss Tryz.underlying21 (by kernel_rfl) (by decide) (by kernel_rfl) v w
theorem as94_2 (v : Value) (w : World) : (Instr.typeAssert (.iface 94 v) 20 2 true).run Tryz.prog w = .ok (.tuple #[.int .i64 0, .bool false]) w := assert_miss Tryz.underlying2 (by kernel_rfl) (by decide) (by kernel_rfl) v w
theorem as94_53 (v : Value) (w : World) : (Instr.typeAssert (.iface 94 v) 20 53 true).run Tryz.prog w = .ok (.tuple #[.int .u64 0, .bool false]) w := assert_miss Tryz.underlying53 (by kernel_rfl) (by decide) (by kernel_rfl) v w
theorem as94_5 (v : Value) (w : World) : (Instr.typeAssert (.iface 94 v) 20 5 true).run Tryz.prog w = .ok (.tuple #[.int .u8 0, .bool false]) w := assert_miss Tryz.underlying5 (by kernel_rfl) (by decide) (by kernel_rfl) v w
theorem as94_54 (v : Value) (w : World) : (Instr.typeAssert (.iface 94 v) 20 54 true).run Tryz.prog w = .ok (.tuple #[.int .u16 0, .bool false]) w := assert_miss Tryz.underlying54 (by kernel_rfl) (by decide) (by kernel_rfl) v w
theorem as94_55 (v : Value) (w : World) : (Instr.typeAssert (.iface 94 v) 20 55 true).run Tryz.prog w = .ok (.tuple #[.int .u32 0, .bool false]) w := assert_miss Tryz.underlying55 (by kernel_rfl) (by decide) (by kernel_rfl) v w
theorem as94_22 (v : Value) (w : World) : (Instr.typeAssert (.iface 94 v) 20 22 true).run Tryz.prog w = .ok (.tuple #[.int .u64 0, .bool false]) w := assert_miss Tryz.underlying22 (by kernel_rfl) (by decide) (by kernel_rfl) v w
theorem as94_56 (v : Value) (w : World) : (Instr.typeAssert (.iface 94 v) 20 56 true).run Tryz.prog w = .ok (.tuple #[.slice none 0 0, .bool false]) w := assert_miss Tryz.underlying56 (by kernel_rfl) (by decide) (by kernel_rfl) v w
theorem as94_67 (v : Value) (w : World) : (Instr.typeAssert (.iface 94 v) 20 67 true).run Tryz.prog w = .ok (.tuple #[.nilIface, .bool false]) w := run_typeAssert_lacksB Tryz.underlying67 (by kernel_rfl) (by kernel_rfl) v 20 w
theorem as94_45 (v : Value) (w : World) : (Instr.typeAssert (.iface 94 v) 20 45 true).run Tryz.prog w = .ok (.tuple #[.nilIface, .bool false]) w := run_typeAssert_lacksB Tryz.underlying45 (by kernel_rfl) (by kernel_rfl) v 20 w
theorem as94_94 (v : Value) (w : World) : (Instr.typeAssert (.iface 94 v) 20 94 true).run Tryz.prog w = .ok (.tuple #[v, .bool true]) w := assert_hit Tryz.underlying94 (by kernel_rfl) v w
theorem as95_9 (v : Value) (w : World) : (Instr.typeAssert (.iface 95 v) 20 9 true).run Tryz.prog w = .ok (.tuple #[.string ⟨#[]⟩, .bool false]) w := assert_miss Tryz.underlying9 (by kernel_rfl) (by decide) (by kernel_rfl) v w
theorem as95_4 (v : Value) (w : World) : (Instr.typeAssert (.iface 95 v) 20 4 true).run Tryz.prog w = .ok (.tuple #[.bool false, .bool false]) w := assert_miss Tryz.underlying4 (by kernel_rfl) (by decide) (by kernel_rfl) v w
theorem as95_23 (v : Value) (w : World) : (Instr.typeAssert (.iface 95 v) 20 23 true).run Tryz.prog w = .ok (.tuple #[.float .f64 0, .bool false]) w := assert_miss Tryz.underlying23 (by kernel_rfl) (by decide) (by kernel_rfl) v w
theorem as95_60 (v : Value) (w : World) : (Instr.typeAssert (.iface 95 v) 20 60 true).run Tryz.prog w = .ok (.tuple #[.float .f32 0, .bool false]) w := assert_miss Tryz.underlying60 (by kernel_rfl) (by decide) (by kernel_rfl) v w
theorem as95_3 (v : Value) (w : World) : (Instr.typeAssert (.iface 95 v) 20 3 true).run Tryz.prog w = .ok (.tuple #[.int .i64 0, .bool false]) w := assert_miss Tryz.underlying3 (by kernel_rfl) (by decide) (by kernel_rfl) v w
theorem as95_62 (v : Value) (w : World) : (Instr.typeAssert (.iface 95 v) 20 62 true).run Tryz.prog w = .ok (.tuple #[.int .i8 0, .bool false]) w := assert_miss Tryz.underlying62 (by kernel_rfl) (by decide) (by kernel_rfl) v w
theorem as95_64 (v : Value) (w : World) : (Instr.typeAssert (.iface 95 v) 20 64 true).run Tryz.prog w = .ok (.tuple #[.int .i16 0, .bool false]) w := assert_miss Tryz.underlying64 (by kernel_rfl) (by decide) (by kernel_rfl) v w
theorem as95_21 (v : Value) (w : World) : (Instr.typeAssert (.iface 95 v) 20 21 true).run Tryz.prog w = .ok (.tuple #[.int .i32 0, .bool false]) w := assert_miss Tryz.underlying21 (by kernel_rfl) (by decide) (by kernel_rfl) v w
theorem as95_2 (v : Value) (w : World) : (Instr.typeAssert (.iface 95 v) 20 2 true).run Tryz.prog w = .ok (.tuple #[.int .i64 0, .bool false]) w := assert_miss Tryz.underlying2 (by kernel_rfl) (by decide) (by kernel_rfl) v w
theorem as95_53 (v : Value) (w : World) : (Instr.typeAssert (.iface 95 v) 20 53 true).run Tryz.prog w = .ok (.tuple #[.int .u64 0, .bool false]) w := assert_miss Tryz.underlying53 (by kernel_rfl) (by decide) (by kernel_rfl) v w
theorem as95_5 (v : Value) (w : World) : (Instr.typeAssert (.iface 95 v) 20 5 true).run Tryz.prog w = .ok (.tuple #[.int .u8 0, .bool false]) w := assert_miss Tryz.underlying5 (by kernel_rfl) (by decide) (by kernel_rfl) v w
theorem as95_54 (v : Value) (w : World) : (Instr.typeAssert (.iface 95 v) 20 54 true).run Tryz.prog w = .ok (.tuple #[.int .u16 0, .bool false]) w := assert_miss Tryz.underlying54 (by kernel_rfl) (by decide) (by kernel_rfl) v w
theorem as95_55 (v : Value) (w : World) : (Instr.typeAssert (.iface 95 v) 20 55 true).run Tryz.prog w = .ok (.tuple #[.int .u32 0, .bool false]) w := assert_miss Tryz.underlying55 (by kernel_rfl) (by decide) (by kernel_rfl) v w
theorem as95_22 (v : Value) (w : World) : (Instr.typeAssert (.iface 95 v) 20 22 true).run Tryz.prog w = .ok (.tuple #[.int .u64 0, .bool false]) w := assert_miss Tryz.underlying22 (by kernel_rfl) (by decide) (by kernel_rfl) v w
theorem as95_56 (v : Value) (w : World) : (Instr.typeAssert (.iface 95 v) 20 56 true).run Tryz.prog w = .ok (.tuple #[.slice none 0 0, .bool false]) w := assert_miss Tryz.underlying56 (by kernel_rfl) (by decide) (by kernel_rfl) v w
theorem as95_67 (v : Value) (w : World) : (Instr.typeAssert (.iface 95 v) 20 67 true).run Tryz.prog w = .ok (.tuple #[.nilIface, .bool false]) w := run_typeAssert_lacksB Tryz.underlying67 (by kernel_rfl) (by kernel_rfl) v 20 w
theorem as95_45 (v : Value) (w : World) : (Instr.typeAssert (.iface 95 v) 20 45 true).run Tryz.prog w = .ok (.tuple #[.nilIface, .bool false]) w := run_typeAssert_lacksB Tryz.underlying45 (by kernel_rfl) (by kernel_rfl) v 20 w
theorem as95_94 (v : Value) (w : World) : (Instr.typeAssert (.iface 95 v) 20 94 true).run Tryz.prog w = .ok (.tuple #[.pointer none, .bool false]) w := assert_miss Tryz.underlying94 (by kernel_rfl) (by decide) (by kernel_rfl) v w
theorem as95_95 (v : Value) (w : World) : (Instr.typeAssert (.iface 95 v) 20 95 true).run Tryz.prog w = .ok (.tuple #[v, .bool true]) w := assert_hit Tryz.underlying95 (by kernel_rfl) v w
end Go.Proofs.YtigfkbeiaphjfaaGreatDoor.Ca
