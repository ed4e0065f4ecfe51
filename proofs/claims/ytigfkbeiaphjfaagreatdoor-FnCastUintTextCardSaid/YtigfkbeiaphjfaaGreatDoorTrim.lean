/- The walks of cast's zzInSet, zzTrimLeft, zzContains, trimDecimal at a text of decimal digits: it is left as it is. -/
import Derived.Test.YtigfkbeiaphjfaaGreatDoorSame
import Derived.Lib.OthersKept
import Derived.Deep.LoopGhost
import Derived.WalkLawsBesides
namespace Go.Proofs.YtigfkbeiaphjfaaGreatDoor.Ca
open Go.RowKit

/-- A text of decimal digits. -/
def Digs (s : ByteArray) : Prop := 0 < s.size ∧ s.size ≤ 400 ∧ ∀ (k : Nat) (h : k < s.size), 48 ≤ s[k].toNat ∧ s[k].toNat ≤ 57

def plus : ByteArray := ⟨#[43]⟩

set_option maxRecDepth 100000 in
theorem inset_any (r : Int) (hr : r ≠ 43) (w : World) : Calls Tryz.prog 116 #[.int .i32 r, .string ⟨#[43]⟩] w fun e w' => e = .returned (.bool false) ∧ Below w.heap.size w w' := by
  have t14 : (r == 43) = false := by simpa using hr
  go_enter Tryz.func116, Tryz.ntmps116
  go_wp2_with fail
  go_loopg [6] 1 (fun gk v wr => ∃ pos : Nat, gk = 1 - pos ∧ pos ≤ 1 ∧ wr.heap[w.heap.size]? = some (.stringIter ⟨#[43]⟩ pos) ∧ Below w.heap.size w wr)
  case atStart => exact ⟨0, rfl, by omega, by have := World.iter_heap w ⟨#[43]⟩ 0; simpa using this, (Below.refl _ _).alloc (Nat.le_refl _) _⟩
  case round =>
    obtain ⟨pos, rfl, hpl, hit, hb⟩ := hrel
    by_cases hp : pos < 1
    · obtain rfl : pos = 0 := by omega
      have hnx : ∀ ty, (Instr.next (.pointer (some ⟨w.heap.size, 0, none⟩)) true ty).run Tryz.prog wr = .ok (.tuple #[.bool true, .int .i64 0, .int .i32 43]) (wr.iterAt w.heap.size ⟨#[43]⟩ 1) := fun ty => Lib.run_next_ascii_at wr w.heap.size ⟨#[43]⟩ 0 ty hit (by decide) (by decide)
      go_wp2_with fail
      go_roundg 0
      case measure => omega
      case rel => exact ⟨1, rfl, by omega, Lib.iterAt_heap _ _ _ _ _ hit, Lib.below_iterAt hb (by omega) _ _⟩
    · obtain rfl : pos = 1 := by omega
      have hnx : ∀ ty, (Instr.next (.pointer (some ⟨w.heap.size, 0, none⟩)) true ty).run Tryz.prog wr = .ok (.tuple #[.bool false]) wr := fun ty => Lib.run_next_end_at wr w.heap.size ⟨#[43]⟩ 1 ty hit (by decide)
      go_wp2
      go_ret
      exact ⟨rfl, hb⟩

set_option maxRecDepth 100000 in
theorem trimLeft_any (s : ByteArray) (h : Digs s) (w : World) : Calls Tryz.prog 91 #[.string s, .string ⟨#[43]⟩] w fun e w' => e = .returned (.string s) ∧ Below w.heap.size w w' := by
  obtain ⟨h0, _, h9⟩ := h
  have hd := h9 0 h0
  go_enter Tryz.func91, Tryz.ntmps91
  go_wp2_with fail
  go_loopg [5, 6] 0 (fun gk v5 v6 wr => wr.heap[w.heap.size]? = some (.stringIter s 0) ∧ Below w.heap.size w wr)
  case atStart => exact ⟨by have := World.iter_heap w s 0; simpa using this, (Below.refl _ _).alloc (Nat.le_refl _) _⟩
  case round =>
    obtain ⟨hit, hb⟩ := hrel
    have hnx : ∀ ty, (Instr.next (.pointer (some ⟨w.heap.size, 0, none⟩)) true ty).run Tryz.prog wr = .ok (.tuple #[.bool true, .int .i64 0, .int .i32 (s[0].toNat : Int)]) (wr.iterAt w.heap.size s 1) := fun ty => Lib.run_next_ascii_at wr w.heap.size s 0 ty hit h0 (by omega)
    have hb2 : Below w.heap.size w (wr.iterAt w.heap.size s 1) := Lib.below_iterAt hb (Nat.le_refl _) _ _
    generalize wr.iterAt w.heap.size s 1 = wr2 at hnx hb2
    obtain ⟨r, hr⟩ : ∃ r : Int, (s[0].toNat : Int) = r := ⟨_, rfl⟩
    have hr43 : r ≠ 43 := by omega
    rw [hr] at hnx
    clear hr hd
    go_wp2_with fail
    refine (inset_any r hr43 _).mono ?_
    rintro e w3 ⟨rfl, hb3⟩
    go_wp2
    go_ret
    exact ⟨rfl, hb2.trans (hb3.mono hb2.size)⟩

theorem one_of (s : ByteArray) (k : Nat) (hk : k < s.size) : (s.extract k (k + 1)).toList = [s[k]] := by
  have e : (s.extract k (k + 1)).data.toList = (s.data.toList.take (k + 1)).drop k := by
    simp [List.extract_eq_take_drop, List.drop_take]
  have hl : k < s.data.toList.length := by simpa using hk
  rw [ByteArray.toList_eq, e, List.take_succ_eq_append_getElem hl, List.drop_append_of_le_length (by rw [List.length_take]; omega), List.drop_of_length_le (by rw [List.length_take]; omega)]
  rfl

set_option maxRecDepth 100000 in
theorem index_dot (s : ByteArray) (h : Digs s) (w : World) : Calls Tryz.prog 115 #[.string s, .string ⟨#[46]⟩] w fun e w' => e = .returned (.int .i64 (-1)) ∧ ∃ n, w' = w.drewN n := by
  have h400 := h.2.1
  go_enter Tryz.func115, Tryz.ntmps115
  go_wp2_with fail
  go_loopw [5] (fun iv wr => ∃ k : Nat, k ≤ s.size ∧ iv = .int .i64 k ∧ (∃ n, wr = w.drewN n)) (fun iv _ => s.size - (intOf iv).toNat)
  case atStart => exact ⟨0, Nat.zero_le _, rfl, ⟨0, rfl⟩⟩
  case round =>
    obtain ⟨k, hk, rfl, ⟨n, rfl⟩⟩ := hrel
    by_cases hlt : k < s.size
    · have p1 : decide ((k : Int) + 1 ≤ (s.size : Int)) = true := by simp; omega
      have hsl : ∀ W : World, (Instr.slice 9 (.string s) (some (.int .i64 (k : Int))) (some (.int .i64 ((k : Int) + 1))) none).run Tryz.prog W = .ok (.string (s.extract k (k + 1))) W := fun W => by
        have h := run_slice_string (P := Tryz.prog) W 9 s .i64 .i64 (k : Int) ((k : Int) + 1) Tryz.underlying9 (by omega) (by omega) (by omega)
        rwa [Int.toNat_natCast, show ((k : Int) + 1).toNat = k + 1 by omega] at h
      have hd := h.2.2 k hlt
      have t : ((s.extract k (k + 1)).toList == [46]) = false := by
        rw [one_of s k hlt]
        simp
        intro e
        rw [e] at hd
        exact absurd hd.1 (by decide)
      clear hd
      go_wp2
      exact ⟨⟨k + 1, by omega, by simp, ⟨n, rfl⟩⟩, by simp [intOf]; omega⟩
    · obtain rfl : k = s.size := by omega
      have p1 : decide ((s.size : Int) + 1 ≤ (s.size : Int)) = false := by simp; omega
      go_wp2
      go_ret
      exact ⟨rfl, n, rfl⟩
set_option maxRecDepth 100000 in
theorem contains_dot (s : ByteArray) (h : Digs s) (w : World) : Calls Tryz.prog 87 #[.string s, .string ⟨#[46]⟩] w fun e w' => e = .returned (.bool false) ∧ ∃ n, w' = w.drewN n := by
  go_enter Tryz.func87, Tryz.ntmps87
  go_wp2_with fail
  refine (index_dot s h w).mono ?_
  rintro e w1 ⟨rfl, n, rfl⟩
  go_wp2
  go_ret
  exact ⟨rfl, n, rfl⟩
set_option maxRecDepth 100000 in
theorem trimDecimal_any (s : ByteArray) (h : Digs s) (w : World) : Calls Tryz.prog 65 #[.string s] w fun e w' => e = .returned (.string s) ∧ ∃ n, w' = w.drewN n := by
  go_enter Tryz.func65, Tryz.ntmps65
  go_wp2_with fail
  refine (contains_dot s h w).mono ?_
  rintro e w1 ⟨rfl, n, rfl⟩
  go_wp2
  go_ret
  exact ⟨rfl, n, rfl⟩
end Go.Proofs.YtigfkbeiaphjfaaGreatDoor.Ca
