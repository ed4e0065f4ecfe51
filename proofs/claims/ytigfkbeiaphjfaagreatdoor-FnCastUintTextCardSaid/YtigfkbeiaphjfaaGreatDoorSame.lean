/- The walks of the law FnCastTextSame: a string cast to string is itself; so is a bool cast to bool. -/
import Derived.Test.YtigfkbeiaphjfaaGreatDoorAsserts
import Derived.BigQuiet
import Derived.Laws.Rows
import Derived.WalkKit
import Derived.Lib.Hide
namespace Go.Proofs.YtigfkbeiaphjfaaGreatDoor.Ca
open Go.RowKit

/-- An impl.Any as a value. -/
def anyV (k i u : Int) (f : Nat) (s : ByteArray) : Value := .agg #[.int .i64 k, .int .i64 i, .int .u64 u, .float .f64 f, .string s, .slice none 0 0, .slice none 0 0]

theorem store_float (k : FloatKind) (b : Nat) (a : Addr) (W : World) : (store a (.float k b)).run Tryz.prog W = stored Tryz.prog W a (.float k b) .plain := run_store _ W a _ _ rfl
theorem res_cell {P : Program} {fn : Func} {p : Tmp} {ty : TypeId} (h : fn.results = #[.cell p ty]) (tmps : Array Value) (w : World) {g : Nat} (t : TypeId) (cs : Array Value) (fr : Nat × Nat) (d : TypeDesc)
    (hp : tmps.getD p undef = .pointer (some ⟨g, 0, none⟩)) (hg : w.heap[g]? = some (.cells cs t fr))
    (hu : P.underlying ty = some d) (hd : (match d with | .struct _ | .array _ _ => true | _ => false) = true) (hi : (P.info? ty).map (·.size) = some cs.size) :
    (results fn tmps).run P w = .ok (.agg cs) w := by
  have hp' : tmps[p]?.getD undef = .pointer (some ⟨g, 0, none⟩) := by simpa using hp
  simp [results, h, hp', asAddr, run_loadVar_row w g t ty cs fr d hg hu hd hi]
theorem new_blk (w : World) (o : Obj) : (w.alloc o).heap[w.heap.size]? = some o := heap_alloc_new w o
theorem cell_b {w w' : World} {a : Addr} {v : Value} (hb : Below w.heap.size w w') (h : w.cell? a = some v) : w'.cell? a = some v := (hb.cell (World.block_lt_of_cell? w a h)).trans h
theorem al_b (w : World) (o : Obj) : Below w.heap.size w (w.alloc o) := (Below.refl _ w).alloc (Nat.le_refl _) o
theorem new_cell (w : World) (cs : Array Value) (t : TypeId) (i : Nat) : (w.alloc (.cells cs t)).cell? ⟨w.heap.size, i, none⟩ = cs[i]? := cell_of_row _ _ i cs t (0, 0) (heap_alloc_new w _)
theorem bdr {b : Nat} {w w' : World} (h : Below b w w') (n : Nat) : Below b w (w'.drewN n) := ⟨h.os, h.tape, h.output, h.size, h.block⟩

set_option maxRecDepth 100000 in
theorem value_str (s : ByteArray) (w : World) : Calls Tryz.prog 16 #[anyV 14 0 0 0 s] w fun e w' => e = .returned (.iface 9 (.string s)) ∧ Below w.heap.size w w' := by
  unfold anyV
  go_enter Tryz.func16, Tryz.ntmps16
  go_wp2
  go_ret
  exact ⟨rfl, (Below.refl _ _).alloc (Nat.le_refl _) _⟩

set_option maxRecDepth 100000 in
theorem value_bool (b : Int) (w : World) : Calls Tryz.prog 16 #[anyV 1 b 0 0 ⟨#[]⟩] w fun e w' => e = .returned (.iface 4 (.bool (b != 0))) ∧ Below w.heap.size w w' := by
  unfold anyV
  go_enter Tryz.func16, Tryz.ntmps16
  go_wp2
  go_ret
  exact ⟨rfl, (Below.refl _ _).alloc (Nat.le_refl _) _⟩

set_option maxRecDepth 100000 in
theorem tostr_str (s : ByteArray) (w : World) : Calls Tryz.prog 15 #[.iface 9 (.string s)] w fun e w' => e = .returned (.tuple #[.string s, .nilIface]) ∧ w' = w := by
  have h := as9_9 (.string s)
  go_enter Tryz.func15, Tryz.ntmps15
  go_wp2
  go_ret2
  exact ⟨rfl, rfl⟩

set_option maxRecDepth 100000 in
theorem tobool_bool (b : Bool) (w : World) : Calls Tryz.prog 17 #[.iface 4 (.bool b)] w fun e w' => e = .returned (.tuple #[.bool b, .nilIface]) ∧ w' = w := by
  have h1 := as4_4 (.bool b)
  have h2 := as4_94 (.bool b)
  have h3 := as4_95 (.bool b)
  go_enter Tryz.func17, Tryz.ntmps17
  go_wp2
  go_ret2
  exact ⟨rfl, rfl⟩

set_option maxRecDepth 100000 in
theorem ToString_str (s : ByteArray) (w : World) : Calls Tryz.prog 7 #[anyV 14 0 0 0 s] w fun e w' => e = .returned (.tuple #[.string s, .bool true]) ∧ Below w.heap.size w w' := by
  have hv := fun W => value_str s W
  have ht := fun W => tostr_str s W
  unfold anyV at hv ⊢
  go_enter Tryz.func7, Tryz.ntmps7
  go_wp2_with fail
  refine (hv _).mono ?_
  rintro e w1 ⟨rfl, hb1⟩
  go_wp2_with fail
  refine (ht _).mono ?_
  rintro e w2 ⟨rfl, rfl⟩
  go_wp2_with fail
  go_quiet (fail)
  go_wp2
  go_ret2
  exact ⟨rfl, bdr (((Below.refl _ w).alloc (Nat.le_refl _) _).trans (hb1.mono (by simp))) _⟩
set_option maxRecDepth 100000 in
theorem ToBool_bool (b : Int) (w : World) : Calls Tryz.prog 8 #[anyV 1 b 0 0 ⟨#[]⟩] w fun e w' => e = .returned (.tuple #[.bool (b != 0), .bool true]) ∧ Below w.heap.size w w' := by
  have hv := fun W => value_bool b W
  have ht := fun W => tobool_bool (b != 0) W
  unfold anyV at hv ⊢
  go_enter Tryz.func8, Tryz.ntmps8
  go_wp2_with fail
  refine (hv _).mono ?_
  rintro e w1 ⟨rfl, hb1⟩
  go_wp2_with fail
  refine (ht _).mono ?_
  rintro e w2 ⟨rfl, rfl⟩
  go_wp2_with fail
  go_quiet (fail)
  go_wp2
  go_ret2
  exact ⟨rfl, bdr (((Below.refl _ w).alloc (Nat.le_refl _) _).trans (hb1.mono (by simp))) _⟩

set_option maxRecDepth 100000 in
theorem castText_any (s : ByteArray) (w : World) : Calls Tryz.prog 6 #[.string s] w fun e w' => e = .returned (anyV 14 0 0 0 (s.extract 0 (min s.size 400))) ∧ Below w.heap.size w w' := by
  have hst := store_float .f64 0
  unfold anyV
  go_enter Tryz.func6, Tryz.ntmps6
  go_wp2
  · have hm : min s.size 400 = 400 := by omega
    rw [hm]
    refine bodyPost_ret (res_cell (g := w.heap.size) rfl _ _ 27 _ (0, 0) _ rfl (new_blk w _) Tryz.underlying27 rfl (by kernel_rfl)) rfl ?_
    exact ⟨rfl, (Below.refl _ _).alloc (Nat.le_refl _) _⟩
  · have hm : min s.size 400 = s.size := by omega
    have he : s.extract 0 s.size = s := by simp
    rw [hm, he]
    refine bodyPost_ret (res_cell (g := w.heap.size) rfl _ _ 27 _ (0, 0) _ rfl (new_blk w _) Tryz.underlying27 rfl (by kernel_rfl)) rfl ?_
    exact ⟨rfl, (Below.refl _ _).alloc (Nat.le_refl _) _⟩

set_option maxRecDepth 100000 in
theorem FnCastTextSame_any (s : ByteArray) (on : Bool) (w : World) : Calls Tryz.prog 3 #[.string s, .bool on] w fun e w' => e = .returned (.bool true) ∧ Below w.heap.size w w' := by
  have hc := fun W => castText_any s W
  obtain ⟨t, ht⟩ : ∃ t, s.extract 0 (min s.size 400) = t := ⟨_, rfl⟩
  rw [ht] at hc
  have hs := fun W => ToString_str t W
  have hb := fun b W => ToBool_bool b W
  have hst := store_float .f64 0
  have tt : (t.toList == t.toList) = true := by simp
  unfold anyV at hc hs hb
  by_cases hz : s.size ≤ 2147483647
  · have p1 : decide ((2147483647 : Int) < (s.size : Int)) = false := by simp; omega
    go_enter Tryz.func3, Tryz.ntmps3
    go_wp2_with fail
    refine (hc _).mono ?_
    rintro e w1 ⟨rfl, hb1⟩
    go_wp2_with fail
    refine (hs _).mono ?_
    rintro e w2 ⟨rfl, hb2⟩
    cases on
    · go_wp2_with fail
      refine (hb _ _).mono ?_
      rintro e w3 ⟨rfl, hb3⟩
      have c4 : w3.cell? ⟨w1.heap.size, 4, none⟩ = some (.string t) := cell_b hb3 (cell_b (al_b _ _) (cell_b hb2 ((new_cell w1 _ 27 4).trans rfl)))
      have hbe : Below w.heap.size w w3 := ((hb1.alloc hb1.size _).trans (hb2.mono (by have := hb1.size; simp; omega))).trans ((al_b w2 _).mono (by have := hb1.size; have := hb2.size; simp at this; omega) |>.trans (hb3.mono (by have := hb1.size; have := hb2.size; simp at this ⊢; omega)))
      go_wp2
      go_ret
      exact ⟨rfl, hbe⟩
    · go_wp2_with fail
      refine (hb _ _).mono ?_
      rintro e w3 ⟨rfl, hb3⟩
      have c4 : w3.cell? ⟨w1.heap.size, 4, none⟩ = some (.string t) := cell_b hb3 (cell_b (al_b _ _) (cell_b hb2 ((new_cell w1 _ 27 4).trans rfl)))
      have hbe : Below w.heap.size w w3 := ((hb1.alloc hb1.size _).trans (hb2.mono (by have := hb1.size; simp; omega))).trans ((al_b w2 _).mono (by have := hb1.size; have := hb2.size; simp at this; omega) |>.trans (hb3.mono (by have := hb1.size; have := hb2.size; simp at this ⊢; omega)))
      go_wp2
      go_ret
      exact ⟨rfl, hbe⟩
  · have p1 : decide ((2147483647 : Int) < (s.size : Int)) = true := by simp; omega
    go_enter Tryz.func3, Tryz.ntmps3
    go_wp2
    go_ret
    exact ⟨rfl, Below.refl _ _⟩
end Go.Proofs.YtigfkbeiaphjfaaGreatDoor.Ca
