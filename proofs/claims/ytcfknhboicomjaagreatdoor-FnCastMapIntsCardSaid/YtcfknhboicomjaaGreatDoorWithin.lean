/- castWithin, castPlain: a value cut to a plain one. (No import of Vals: what it brings turns the walk.) -/
import Derived.Test.YtcfknhboicomjaaGreatDoorFlo
import Derived.Test.YtcfknhboicomjaaGreatDoorChecked
import Derived.WalkKit
import Derived.Lib.Hide
import Derived.StillTailTactics
import Derived.Deep.WholeRow
import Derived.Laws.Tables
namespace Go.Proofs.YtcfknhboicomjaaGreatDoor.Wd
open Go.RowKit Fl
def anyW (k i u : Int) (f : Nat) (s : ByteArray) (l m : Value) : Value := .agg #[.int .i64 k, .int .i64 i, .int .u64 u, .float .f64 f, .string s, l, m]
def anyV (k i u : Int) (f : Nat) (s : ByteArray) : Value := .agg #[.int .i64 k, .int .i64 i, .int .u64 u, .float .f64 f, .string s, .slice none 0 0, .slice none 0 0]
def PlainEnd (e : Ending) : Prop := ∃ k i u f s, e = .returned (anyV k i u f s) ∧ 0 ≤ k ∧ k ≤ 14 ∧ FloatOk f ∧ s.size ≤ 400

theorem cellrow {w : World} {g : Nat} {cs : Array Value} {t : TypeId} {fr : Nat × Nat} (h : w.heap[g]? = some (.cells cs t fr)) (j : Nat) (v : Value) (hv : cs[j]? = some v) : w.cell? ⟨g, j, none⟩ = some v := by
  rw [cell_of_row w g j cs t fr h]; exact hv
theorem info28 : (Tryz.prog.info? 28).map (·.size) = some 7 := by kernel_rfl
theorem two_rows (w : World) (o o' : Obj) : Below w.heap.size w ((w.alloc o).alloc o').drew ∧ ((w.alloc o).alloc o').drew.heap[w.heap.size]? = some o ∧ ((w.alloc o).alloc o').drew.heap[w.heap.size + 1]? = some o' := by
  have hs : (w.alloc o).heap.size = w.heap.size + 1 := Array.size_push ..
  refine ⟨(((Below.refl _ _).alloc (Nat.le_refl _) _).alloc (by omega) _).drew, ?_, ?_⟩
  · exact ((MapKept.heap_alloc (w.alloc o) o').2 w.heap.size (by omega)).trans (MapKept.heap_alloc w o).1
  · have := (MapKept.heap_alloc (w.alloc o) o').1
    rw [hs] at this; exact this
theorem kind_in (k : Int) : 0 ≤ IntKind.i64.wrap ((IntKind.u64.wrap k).tmod 15) ∧ IntKind.i64.wrap ((IntKind.u64.wrap k).tmod 15) ≤ 14 := by
  have h : 0 ≤ IntKind.u64.wrap k := by simp [IntKind.wrap, IntKind.bits, IntKind.signed]; omega
  have h1 : 0 ≤ (IntKind.u64.wrap k).tmod 15 := Int.tmod_nonneg _ h
  have h2 : (IntKind.u64.wrap k).tmod 15 < 15 := Int.tmod_lt_of_pos _ (by omega)
  generalize (IntKind.u64.wrap k).tmod 15 = x at *
  have : IntKind.i64.wrap x = x := by simp [IntKind.wrap, IntKind.bits, IntKind.signed]; omega
  omega
theorem cut_in (s : ByteArray) : (s.extract 0 (if 400 < (s.size : Int) then 400 else (s.size : Int)).toNat).size ≤ 400 := by
  rw [ByteArray.size_extract]
  split <;> omega
theorem neg61 (w : World) : (Op.unary .neg (.float .f64 4881901996069617664)).run Tryz.prog w = .ok (.float .f64 14105274032924393472) w := by
  have : Op.negFloat .f64 4881901996069617664 = 14105274032924393472 := by decide +kernel
  simp [Op.unary, this]
theorem below_setRow {B : Nat} {w w' : World} (h : Below B w w') (cs : Array Value) : Below B w (w'.setRow B cs) :=
  ⟨h.os, h.tape, h.output, by rw [size_setRow]; exact h.size, fun k hk => (setRow_other w' B k cs (by omega)).trans (h.block k hk)⟩
theorem below_setRow1 {B : Nat} {w w' : World} (h : Below B w w') (cs : Array Value) : Below B w (w'.setRow (B + 1) cs) :=
  ⟨h.os, h.tape, h.output, by rw [size_setRow]; exact h.size, fun k hk => (setRow_other w' (B + 1) k cs (by omega)).trans (h.block k hk)⟩
theorem res_cell {P : Program} {fn : Func} {p : Tmp} {ty : TypeId} (h : fn.results = #[.cell p ty]) (tmps : Array Value) (w : World) {g : Nat} (t : TypeId) (cs : Array Value) (fr : Nat × Nat) (d : TypeDesc)
    (hp : tmps.getD p undef = .pointer (some ⟨g, 0, none⟩)) (hg : w.heap[g]? = some (.cells cs t fr))
    (hu : P.underlying ty = some d) (hd : (match d with | .struct _ | .array _ _ => true | _ => false) = true) (hi : (P.info? ty).map (·.size) = some cs.size) :
    (results fn tmps).run P w = .ok (.agg cs) w := results_cell_row h tmps w g t cs fr d hp hg hu hd hi
theorem store_float (k : FloatKind) (b : Nat) (a : Addr) (W : World) : (store a (.float k b)).run Tryz.prog W = stored Tryz.prog W a (.float k b) .plain := run_store _ W a _ _ rfl
set_option maxRecDepth 100000 in
theorem within_any (k i u : Int) (f : Nat) (s : ByteArray) (l m : Value) (w : World) : Calls Tryz.prog 30 #[anyW k i u f s l m, .float .f64 4881901996069617664] w fun e w' => PlainEnd e ∧ Below w.heap.size w w' := by
  unfold anyW
  go_enter Tryz.func30, Tryz.ntmps30
  go_wp2_with fail
  rename_i K hK
  have HK := Lib.hid hK

  have p1 : (0 : Int) ≤ (if 400 < (s.size : Int) then 400 else (s.size : Int)) := by split <;> omega
  have p2 : (if 400 < (s.size : Int) then 400 else (s.size : Int)) ≤ (s.size : Int) := by split <;> omega
  obtain ⟨w2, hw2⟩ : ∃ w2, ((w.alloc (.cells #[.int .i64 k, .int .i64 i, .int .u64 u, .float .f64 f, .string s, l, m] 28)).alloc (.cells #[.int .i64 0, .int .i64 0, .int .u64 0, .float .f64 0, .string { data := #[] }, .slice none 0 0, .slice none 0 0] 28)) = w2 := ⟨_, rfl⟩
  rw [hw2]
  have hb : Below w.heap.size w w2.drew := hw2 ▸ (two_rows w _ _).1
  have r0 : w2.drew.heap[w.heap.size]? = _ := hw2 ▸ (two_rows w _ _).2.1
  have r1 : w2.drew.heap[w.heap.size + 1]? = _ := hw2 ▸ (two_rows w _ _).2.2
  clear hw2
  refine wp_region_still_tail 19 (by kernel_rfl) (by kernel_rfl) ?_
  simp only [List.take_succ_cons, List.take_zero, List.drop_succ_cons, List.drop_zero]
  rw [show ({ w2 with drawn := w2.drawn + 1 } : World) = w2.drew from rfl]
  generalize w2.drew = w3 at *
  generalize hB : w.heap.size = B at *
  have c0 := cellrow r0 0 (.int .i64 k) rfl
  have c1 := cellrow r0 1 (.int .i64 i) rfl
  have c2 := cellrow r0 2 (.int .u64 u) rfl
  have c3 := cellrow r0 3 (.float .f64 f) rfl
  have c4 := cellrow r0 4 (.string s) rfl
  repeat still_step
  clear c0 c1 c2 c3 c4 p1 p2
  obtain ⟨k0, k1⟩ : 0 ≤ IntKind.i64.wrap ((IntKind.u64.wrap k).tmod 15) ∧ IntKind.i64.wrap ((IntKind.u64.wrap k).tmod 15) ≤ 14 := kind_in k
  have ht : (s.extract 0 (if 400 < (s.size : Int) then 400 else (s.size : Int)).toNat).size ≤ 400 := cut_in s
  generalize IntKind.i64.wrap ((IntKind.u64.wrap k).tmod 15) = k' at *
  generalize s.extract 0 (if 400 < (s.size : Int) then 400 else (s.size : Int)).toNat = t at *
  generalize (if 400 < (s.size : Int) then 400 else (s.size : Int)) = sc at *
  refine wpStill_nil ?_
  refine wpList_store_row rfl 28 _ _ rfl B #[.int .i64 k', .int .i64 i, .int .u64 u, .float .f64 f, .string t, .slice none 0 0, .slice none 0 0] rfl rfl 28 _ r0 info28 rfl (by simp [Value.oneCell']) ?_
  obtain ⟨w4, hw4⟩ : ∃ w4, w3.setRow B #[.int .i64 k', .int .i64 i, .int .u64 u, .float .f64 f, .string t, .slice none 0 0, .slice none 0 0] = w4 := ⟨_, rfl⟩
  have r0' : w4.heap[B]? = some (.cells #[.int .i64 k', .int .i64 i, .int .u64 u, .float .f64 f, .string t, .slice none 0 0, .slice none 0 0] 28 (0, 0)) := hw4 ▸ setRow_heap w3 B _ _ 28 _ r0
  have r1' := (show w4.heap[B + 1]? = w3.heap[B + 1]? from hw4 ▸ setRow_other w3 B (B + 1) _ (by omega)).trans r1
  have hb' : Below B w w4 := hw4 ▸ below_setRow hb _
  rw [hw4]
  clear hw4 r0 r1 hb
  have c3 := cellrow r0' 3 (.float .f64 f) rfl
  have n61 := neg61 w4
  refine HK.out _ _ ?_
  clear HK
  refine wp_seq_k (fun K2 hK2 => ?_)
  have HK2 := Lib.hid hK2
  clear hK2
  have sf : (store ⟨B, 3, none⟩ (.float .f64 0)).run Tryz.prog w4 = .ok () (w4.setCell ⟨B, 3, none⟩ (.float .f64 0)) := by
    rw [store_float]
    simp [stored, c3, frozen_of_row w4 B 3 _ 28 r0']
  obtain ⟨w5, hw5⟩ : ∃ w5, w4.setCell ⟨B, 3, none⟩ (.float .f64 0) = w5 := ⟨_, rfl⟩
  have q0 : w5.heap[B]? = some (.cells #[.int .i64 k', .int .i64 i, .int .u64 u, .float .f64 0, .string t, .slice none 0 0, .slice none 0 0] 28 (0, 0)) := hw5 ▸ heap_setCell_same w4 B 3 _ 28 _ r0'
  have q1 := (show w5.heap[B + 1]? = w4.heap[B + 1]? from hw5 ▸ heap_setCell_other w4 ⟨B, 3, none⟩ (B + 1) _ (by simp)).trans r1'
  have hb5 : Below B w w5 := hw5 ▸ hb'.setCell (Nat.le_refl _) _
  rw [hw5] at sf
  clear hw5
  by_cases h1 : (FloatKind.f64.format.order f 14105274032924393472 == some .gt) = true
  · by_cases h2 : (FloatKind.f64.format.order f 4881901996069617664 == some .lt) = true
    · have hok := small_of_order f h1 h2
      go_wp2
      refine HK2.out _ _ ?_
      refine wp_seq_k (fun K3 hK3 => ?_)
      refine wp_region_lit ?_
      refine wpList_load_row rfl 28 _ rfl B rfl 28 _ (0, 0) _ r0' Tryz.underlying28 rfl info28 ?_
      refine wpList_store_row rfl 28 _ _ rfl (B + 1) _ rfl rfl 28 _ r1' info28 rfl (by simp [Value.oneCell']) ?_
      refine hK3 _ _ ?_
      go_wp2
      refine bodyPost_ret (res_cell (g := B + 1) rfl _ _ 28 _ (0, 0) _ rfl (setRow_heap _ (B + 1) _ _ 28 _ r1') Tryz.underlying28 rfl info28) rfl ?_
      exact ⟨⟨k', i, u, f, t, rfl, k0, k1, hok, ht⟩, below_setRow1 hb' _⟩

    · have h2 : (FloatKind.f64.format.order f 4881901996069617664 == some .lt) = false := by simpa using h2
      go_wp2
      refine HK2.out _ _ ?_
      refine wp_seq_k (fun K3 hK3 => ?_)
      refine wp_region_lit ?_
      refine wpList_load_row rfl 28 _ rfl B rfl 28 _ (0, 0) _ q0 Tryz.underlying28 rfl info28 ?_
      refine wpList_store_row rfl 28 _ _ rfl (B + 1) _ rfl rfl 28 _ q1 info28 rfl (by simp [Value.oneCell']) ?_
      refine hK3 _ _ ?_
      go_wp2
      refine bodyPost_ret (res_cell (g := B + 1) rfl _ _ 28 _ (0, 0) _ rfl (setRow_heap _ (B + 1) _ _ 28 _ q1) Tryz.underlying28 rfl info28) rfl ?_
      exact ⟨⟨k', i, u, 0, t, rfl, k0, k1, floatOk_zero, ht⟩, below_setRow1 hb5 _⟩

  · have h1 : (FloatKind.f64.format.order f 14105274032924393472 == some .gt) = false := by simpa using h1
    · go_wp2
      refine HK2.out _ _ ?_
      refine wp_seq_k (fun K3 hK3 => ?_)
      refine wp_region_lit ?_
      refine wpList_load_row rfl 28 _ rfl B rfl 28 _ (0, 0) _ q0 Tryz.underlying28 rfl info28 ?_
      refine wpList_store_row rfl 28 _ _ rfl (B + 1) _ rfl rfl 28 _ q1 info28 rfl (by simp [Value.oneCell']) ?_
      refine hK3 _ _ ?_
      go_wp2
      refine bodyPost_ret (res_cell (g := B + 1) rfl _ _ 28 _ (0, 0) _ rfl (setRow_heap _ (B + 1) _ _ 28 _ q1) Tryz.underlying28 rfl info28) rfl ?_
      exact ⟨⟨k', i, u, 0, t, rfl, k0, k1, floatOk_zero, ht⟩, below_setRow1 hb5 _⟩

end Go.Proofs.YtcfknhboicomjaaGreatDoor.Wd

namespace Go.Proofs.YtcfknhboicomjaaGreatDoor.Wd
open Go.RowKit Fl
theorem two_rows0 (w : World) (o o' : Obj) : Below w.heap.size w ((w.alloc o).alloc o') ∧ ((w.alloc o).alloc o').heap[w.heap.size]? = some o ∧ ((w.alloc o).alloc o').heap[w.heap.size + 1]? = some o' ∧ ((w.alloc o).alloc o').heap.size = w.heap.size + 2 := by
  have h := two_rows w o o'
  have hs : (w.alloc o).heap.size = w.heap.size + 1 := Array.size_push ..
  have hs2 : ((w.alloc o).alloc o').heap.size = (w.alloc o).heap.size + 1 := Array.size_push ..
  exact ⟨⟨h.1.os, h.1.tape, h.1.output, h.1.size, h.1.block⟩, h.2.1, h.2.2, by omega⟩
set_option maxRecDepth 100000 in
theorem plain_any (k i u : Int) (f : Nat) (s : ByteArray) (l m : Value) (w : World) : Calls Tryz.prog 18 #[anyW k i u f s l m] w fun e w' => PlainEnd e ∧ Below w.heap.size w w' := by
  have hwi := fun W => within_any k i u f s l m W
  unfold anyW at *
  go_enter Tryz.func18, Tryz.ntmps18
  go_wp2_with fail
  rename_i K1 hK1 K2 hK2
  have HK1 := Lib.hid hK1
  have HK2 := Lib.hid hK2
  clear hK1 hK2
  obtain ⟨w2, hw2⟩ : ∃ w2, ((w.alloc (.cells #[.int .i64 k, .int .i64 i, .int .u64 u, .float .f64 f, .string s, l, m] 28)).alloc (.cells #[.int .i64 0, .int .i64 0, .int .u64 0, .float .f64 0, .string { data := #[] }, .slice none 0 0, .slice none 0 0] 28)) = w2 := ⟨_, rfl⟩
  rw [hw2]
  have hb : Below w.heap.size w w2 := hw2 ▸ (two_rows0 w _ _).1
  have r1 : w2.heap[w.heap.size + 1]? = _ := hw2 ▸ (two_rows0 w _ _).2.2.1
  have hs : w2.heap.size = w.heap.size + 2 := hw2 ▸ (two_rows0 w _ _).2.2.2
  clear hw2
  refine (hwi w2).mono ?_
  rintro e w3 ⟨⟨k', i', u', f', t, rfl, k0, k1, hf, ht⟩, hb3⟩
  have r1' := (hb3.block (w.heap.size + 1) (by omega)).trans r1
  have hb4 := hb.trans (hb3.mono hb.size)
  generalize hB : w.heap.size = B at *
  refine HK2.out _ _ ?_
  refine wpList_store_row rfl 28 _ _ rfl (B + 1) _ rfl rfl 28 _ r1' info28 rfl (by simp [Value.oneCell']) ?_
  refine HK1.out _ _ ?_
  go_wp2
  refine bodyPost_ret (res_cell (g := B + 1) rfl _ _ 28 _ (0, 0) _ rfl (setRow_heap _ (B + 1) _ _ 28 _ r1') Tryz.underlying28 rfl info28) rfl ?_
  exact ⟨⟨k', i', u', f', t, rfl, k0, k1, hf, ht⟩, below_setRow1 hb4 _⟩
end Go.Proofs.YtcfknhboicomjaaGreatDoor.Wd
