/- The walks of strconv's logarithms, of prescale. -/
import Derived.Test.YtcfknhboicomjaaGreatDoorFsmall
import Derived.Test.YtcfknhboicomjaaGreatDoorWWords
import Derived.WalkKit
import Derived.Lib.Hide
import Derived.BigQuiet
import Derived.Below
namespace Go.Proofs.YtcfknhboicomjaaGreatDoor.Ft
open Go.RowKit Fy
open Go.Proofs.YtcfknhboicomjaaGreatDoorW.PrintWords (blk_set blk_cell blk_frozen blk_far blk_lt)

theorem wrapI {x : Int} (h0 : -9223372036854775808 ≤ x) (h1 : x < 9223372036854775808) : IntKind.i64.wrap x = x := by simp [IntKind.wrap, IntKind.bits, IntKind.signed]; omega

set_option maxRecDepth 100000 in
theorem lg_any (x : Int) (h0 : -100000 ≤ x) (h1 : x ≤ 100000) (w : World) : Calls Tryz.prog 104 #[.int .i64 x] w fun e w' => e = .returned (.int .i64 (lg x)) ∧ w' = w := by
  have e1 : IntKind.i64.wrap (x * 78913) = x * 78913 := wrapI (by omega) (by omega)
  go_enter Tryz.func104, Tryz.ntmps104
  go_wp2
  go_ret
  refine ⟨?_, rfl⟩
  simp [lg, e1]
set_option maxRecDepth 100000 in
theorem l2_any (x : Int) (h0 : -100000 ≤ x) (h1 : x ≤ 100000) (w : World) : Calls Tryz.prog 121 #[.int .i64 x] w fun e w' => e = .returned (.int .i64 (l2 x)) ∧ w' = w := by
  have e1 : IntKind.i64.wrap (x * 108853) = x * 108853 := wrapI (by omega) (by omega)
  go_enter Tryz.func121, Tryz.ntmps121
  go_wp2
  go_ret
  refine ⟨?_, rfl⟩
  simp [l2, e1]
set_option maxRecDepth 100000 in
theorem sk_any (x : Int) (h0 : -100000 ≤ x) (h1 : x ≤ 100000) (w : World) : Calls Tryz.prog 119 #[.int .i64 x] w fun e w' => e = .returned (.int .i64 (sk x)) ∧ w' = w := by
  have e1 : IntKind.i64.wrap (x * 631305) = x * 631305 := wrapI (by omega) (by omega)
  have e2 : IntKind.i64.wrap (x * 631305 - 261663) = x * 631305 - 261663 := wrapI (by omega) (by omega)
  go_enter Tryz.func119, Tryz.ntmps119
  go_wp2
  go_ret
  refine ⟨?_, rfl⟩
  simp [sk, e1, e2]
set_option maxRecDepth 100000 in
theorem nudge_any (u v : Nat) (d : Int) (h : (u : Int) + d = v) (hu : u < 18446744073709551616) (hv : v < 18446744073709551616) (w : World) (h0 : -1 ≤ d) (h1 : d ≤ 1) : Calls Tryz.prog 123 #[.int .u64 u, .int .i64 d] w fun e w' => e = .returned (.int .u64 v) ∧ w' = w := by
  have e1 : IntKind.u64.wrap ((u : Int) + IntKind.u64.wrap d) = (v : Int) := by
    simp [IntKind.wrap, IntKind.bits, IntKind.signed]; omega
  go_enter Tryz.func123, Tryz.ntmps123
  go_wp2
  go_ret
  refine ⟨?_, rfl⟩
  simp [e1]
set_option maxRecDepth 100000 in
theorem unmin_any (u : Nat) (h0 : 1 ≤ u) (h : u < 4611686018427387904) (w : World) : Calls Tryz.prog 127 #[.int .u64 u] w fun e w' => e = .returned (.int .u64 (4 * u - 2 : Nat)) ∧ w' = w := by
  have e1 : IntKind.u64.wrap ((u : Int) * 4) = ((4 * u : Nat) : Int) := by
    simp [IntKind.wrap, IntKind.bits, IntKind.signed]; omega
  have e2 : IntKind.u64.wrap (((4 * u : Nat) : Int) - 2) = ((4 * u - 2 : Nat) : Int) := by
    simp [IntKind.wrap, IntKind.bits, IntKind.signed]; omega
  go_enter Tryz.func127, Tryz.ntmps127
  go_wp2
  go_ret
  refine ⟨?_, rfl⟩
  exact congrArg (fun z => Ending.returned (.int .u64 z)) (by omega)
set_option maxRecDepth 100000 in
theorem bool2u_any (b : Bool) (w : World) : Calls Tryz.prog 141 #[.bool b] w fun e w' => e = .returned (.int .u64 (if b then 1 else 0)) ∧ w' = w := by
  cases b
  · go_enter Tryz.func141, Tryz.ntmps141
    go_wp2
    go_ret
    exact ⟨rfl, rfl⟩
  · go_enter Tryz.func141, Tryz.ntmps141
    go_wp2
    go_ret
    exact ⟨rfl, rfl⟩

/-- A row of the powers' table, as the world holds it. -/
def TenAt (w : World) : Prop := ∀ p : Int, -348 ≤ p → p ≤ 347 → w.cell? ⟨5, (p + 348).toNat * 2, none⟩ = some (.int .u64 (rowOf p).1) ∧ w.cell? ⟨5, (p + 348).toNat * 2 + 1, none⟩ = some (.int .u64 (rowOf p).2)
theorem TenAt.drew {w : World} (h : TenAt w) : TenAt w.drew := h
theorem TenAt.drewN {w : World} (h : TenAt w) (n : Nat) : TenAt (w.drewN n) := h

set_option maxRecDepth 100000 in
set_option maxHeartbeats 2000000 in
theorem prescale_any (g : Nat) (a b s e p lp : Int) (r1 r2 : Nat) (i : Nat) (S : Int) (hi : p + 348 = i) (hi2 : i < 696) (he0 : -100000 ≤ e) (he1 : e ≤ 100000) (hl0 : -100000 ≤ lp) (hl1 : lp ≤ 100000) (hS : -(e + lp + 3) = S) (w : World) (hg : g ≠ 5) (hb : w.heap[g]? = some (.cells #[.int .u64 a, .int .u64 b, .int .i64 s] 193 (0, 0)))
    (ht : w.cell? ⟨5, i * 2, none⟩ = some (.int .u64 r1)) (ht1 : w.cell? ⟨5, i * 2 + 1, none⟩ = some (.int .u64 r2)) :
    Calls Tryz.prog 120 #[.pointer (some ⟨g, 0, none⟩), .int .i64 e, .int .i64 p, .int .i64 lp] w fun x w' => x = .returned (.tuple #[]) ∧ w' = ((w.setCell ⟨g, 0, none⟩ (.int .u64 r1)).setCell ⟨g, 1, none⟩ (.int .u64 r2)).setCell ⟨g, 2, none⟩ (.int .i64 S) := by
  have f0 := blk_frozen hb 0
  have f1 := blk_frozen hb 1
  have f2 := blk_frozen hb 2
  have c0 : w.cell? ⟨g, 0, none⟩ = some (.int .u64 a) := (blk_cell hb 0).trans rfl
  have c1 : w.cell? ⟨g, 1, none⟩ = some (.int .u64 b) := (blk_cell hb 1).trans rfl
  have c2 : w.cell? ⟨g, 2, none⟩ = some (.int .i64 s) := (blk_cell hb 2).trans rfl
  have e1 : IntKind.i64.wrap (p + 348) = (i : Int) := by rw [wrapI (by omega) (by omega), hi]
  have e1' : IntKind.i64.wrap (p - -348) = (i : Int) := by rw [wrapI (by omega) (by omega)]; omega
  have e2 : IntKind.i64.wrap (e + lp) = e + lp := wrapI (by omega) (by omega)
  have e3 : IntKind.i64.wrap (e + lp + 3) = e + lp + 3 := wrapI (by omega) (by omega)
  have e4 : IntKind.i64.wrap (-(e + lp + 3)) = S := by rw [wrapI (by omega) (by omega), hS]
  have i0 : (0 : Int) ≤ (i : Int) := by omega
  have i1 : (i : Int) < 696 := by omega
  go_enter Tryz.func120, Tryz.ntmps120
  go_wp2
  exact bodyPost_end (by simp [results_none]) rfl ⟨rfl, rfl⟩
end Go.Proofs.YtcfknhboicomjaaGreatDoor.Ft
