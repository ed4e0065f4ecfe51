/- The walks of pflag's duration door: the value made, set, asked now, and written. -/
import Derived.Test.YtjkmidohcidkiaaDoorParse
import Derived.Test.YtjkmidohcidkiaaDoorString
namespace Go.Proofs.YtjkmidohcidkiaaDoor.Zz
open Go.RowKit Go.Proofs.YtjkmidohcidkiaaDoorW.PrintWords Go.Proofs.YtjkmidohcidkiaaDoor.Sp

/-- The made value's two blocks: the duration at B, the pointer to it behind. -/
structure Box (W : World) (B : Nat) (d : Int) : Prop where
  val : W.heap[B]? = some (.cells #[.int .i64 d] 77 (0, 0))
  ptr : W.heap[B + 1]? = some (.cells #[.pointer (some ⟨B, 0, none⟩)] 76 (0, 0))
theorem Box.cell {W : World} {B : Nat} {d : Int} (h : Box W B d) : W.cell? ⟨B, 0, none⟩ = some (.int .i64 d) := by rw [blk_cell h.val]; rfl
theorem Box.pcell {W : World} {B : Nat} {d : Int} (h : Box W B d) : W.cell? ⟨B + 1, 0, none⟩ = some (.pointer (some ⟨B, 0, none⟩)) := by rw [blk_cell h.ptr]; rfl
theorem Box.below {W W' : World} {B n : Nat} {d : Int} (h : Box W B d) (hb : Below n W W') (hn : B + 1 < n) : Box W' B d :=
  ⟨by rw [hb.block B (by omega)]; exact h.val, by rw [hb.block (B + 1) hn]; exact h.ptr⟩
theorem Box.set {W : World} {B : Nat} {d : Int} (h : Box W B d) (v : Int) : Box (W.setCell ⟨B, 0, none⟩ (.int .i64 v)) B v :=
  ⟨by rw [blk_set h.val 0 (.int .i64 v)]; rfl, by rw [Below.heap_setCell W ⟨B, 0, none⟩ _ (B + 1) (by simp)]; exact h.ptr⟩

set_option maxRecDepth 100000 in
theorem make_any (d : Int) (w : World) : Calls Tryd.prog 17 #[.int .i64 d] w fun e w' =>
    e = .returned (.tuple #[.pointer (some ⟨w.heap.size, 0, none⟩), .func (.func 33) #[] #[.pointer (some ⟨w.heap.size + 1, 0, none⟩)]]) ∧
    Below w.heap.size w w' ∧ w'.heap.size = w.heap.size + 2 ∧ Box w' w.heap.size d := by
  go_enter Tryd.func17, Tryd.ntmps17
  go_wp2
  go_ret2
  refine ⟨rfl, ((Below.refl _ _).alloc (Nat.le_refl _) _).alloc (by simp) _, by simp, ⟨?_, ?_⟩⟩
  · rw [heap_alloc_old _ _ (by simp)]
    exact heap_alloc_new w _
  · have := heap_alloc_new (w.alloc (Obj.cells #[Value.int IntKind.i64 d] 77)) (Obj.cells #[Value.pointer (some { block := w.heap.size, off := 0 })] 76)
    simpa using this

theorem now_any (d : Int) (w : World) (B : Nat) (h : Box w B d) : Calls Tryd.prog 33 #[.pointer (some ⟨B + 1, 0, none⟩)] w fun e w' => e = .returned (.int .i64 d) ∧ w' = w := by
  have h1 := h.cell
  have h2 := h.pcell
  go_enter Tryd.func33, Tryd.ntmps33
  go_wp2
  go_ret
  exact ⟨rfl, rfl⟩

def SetEnd (s : ByteArray) (w : World) (B : Nat) (e : Ending) (w' : World) : Prop :=
  ∃ (v : Int) (E : Value), e = .returned E ∧ Box w' B v ∧ w.grownBy w' (some B) ∧ -9223372036854775808 ≤ v ∧ v ≤ 9223372036854775807 ∧
    ((E = .nilIface ∧ (spanR (bl s) = .fit v ∨ spanR (bl s) = .opn)) ∨ (∃ p, E = .iface 90 (.pointer (some p)) ∧ NoFit (spanR (bl s))))

theorem set_any (s : ByteArray) (w : World) (B : Nat) (d : Int) (bm : Nat) (a : Addr) (hs : s.size ≤ 2147483647) (hu : UM w bm a) (h : Box w B d) (hB : B + 1 < w.heap.size) :
    Calls Tryd.prog 18 #[.pointer (some ⟨B, 0, none⟩), .string s] w (SetEnd s w B) := by
  go_enter Tryd.func18, Tryd.ntmps18
  go_wp2_with fail
  refine (Parse_any s w bm a hs hu).mono ?_
  rintro e w1 ⟨hb, v, E, rfl, hv1, hv2, hE⟩
  have h1 := h.below hb hB
  have h2 := h1.cell
  have h3 := blk_frozen h1.val 0
  have hst := h1.set v
  have hg : w.grownBy (w1.setCell ⟨B, 0, none⟩ (.int .i64 v)) (some B) :=
    Fmt.only_set ⟨hb.os, hb.tape, hb.output, hb.size, fun k hk _ => hb.block k hk⟩ 0 _
  go_wp2
  go_ret
  exact ⟨v, E, rfl, hst, hg, hv1, hv2, hE⟩
end Go.Proofs.YtjkmidohcidkiaaDoor.Zz
