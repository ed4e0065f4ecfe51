/- The walks of pflag's door to a list of durations: made, asked now; and fromString. -/
import Derived.Test.YtjkmidohcidkiaaDoorEach
import Derived.Test.YtjkmidohcidkiaaDoorFits
namespace Go.Proofs.YtjkmidohcidkiaaDoor.Li
open Go.RowKit Go.Proofs.YtjkmidohcidkiaaDoorW.PrintWords Go.Proofs.YtjkmidohcidkiaaDoor.Sp Go.Proofs.YtjkmidohcidkiaaDoor.Fmt Go.Proofs.YtjkmidohcidkiaaDoor.Zz

theorem info77 : (Tryd.prog.info? 77).map (fun i => (i.zero, i.size, i.bytes)) = some (some (.int .i64 0), 1, 8) := by kernel_rfl

/-- The value's three blocks, and the list that it owns. -/
structure Dsv (W : World) (base D : Nat) (v : Value) (it : List Int) (ch : Bool) : Prop where
  cellP : W.heap[D]? = some (.cells #[v] 84 (0, 0))
  cellC : W.heap[D + 1]? = some (.cells #[.pointer (some ⟨D, 0, none⟩)] 85 (0, 0))
  cellD : W.heap[D + 2]? = some (.cells #[.pointer (some ⟨D, 0, none⟩), .bool ch] 89 (0, 0))
  own : W.ownsRow base 77 1 v it.length (encs i64 it)
theorem Dsv.below {W W' : World} {base D : Nat} {v : Value} {it : List Int} {ch : Bool} (h : Dsv W base D v it ch) (hb : Below W.heap.size W W') : Dsv W' base D v it ch :=
  ⟨blk_below h.cellP hb, blk_below h.cellC hb, blk_below h.cellD hb, own_below h.own hb⟩
theorem Dsv.p {W : World} {base D : Nat} {v : Value} {it : List Int} {ch : Bool} (h : Dsv W base D v it ch) : W.cell? ⟨D, 0, none⟩ = some v := by rw [blk_cell h.cellP]; rfl
theorem Dsv.c {W : World} {base D : Nat} {v : Value} {it : List Int} {ch : Bool} (h : Dsv W base D v it ch) : W.cell? ⟨D + 1, 0, none⟩ = some (.pointer (some ⟨D, 0, none⟩)) := by rw [blk_cell h.cellC]; rfl
theorem Dsv.d0 {W : World} {base D : Nat} {v : Value} {it : List Int} {ch : Bool} (h : Dsv W base D v it ch) : W.cell? ⟨D + 2, 0, none⟩ = some (.pointer (some ⟨D, 0, none⟩)) := by rw [blk_cell h.cellD]; rfl
theorem Dsv.d1 {W : World} {base D : Nat} {v : Value} {it : List Int} {ch : Bool} (h : Dsv W base D v it ch) : W.cell? ⟨D + 2, 1, none⟩ = some (.bool ch) := by rw [blk_cell h.cellD]; rfl

theorem three (w : World) (a b c : Obj) : (((w.alloc a).alloc b).alloc c).heap[w.heap.size]? = some a ∧ (((w.alloc a).alloc b).alloc c).heap[w.heap.size + 1]? = some b ∧ (((w.alloc a).alloc b).alloc c).heap[w.heap.size + 2]? = some c := by
  refine ⟨?_, ?_, ?_⟩
  · rw [heap_alloc_old _ _ (by simp; omega), heap_alloc_old _ _ (by simp)]
    exact heap_alloc_new w a
  · rw [heap_alloc_old _ _ (by simp)]
    have := heap_alloc_new (w.alloc a) b
    simpa using this
  · have := heap_alloc_new ((w.alloc a).alloc b) c
    simpa using this
/-- The value is made. -/
def MadeEnd (df : List Int) (w : World) (e : Ending) (w' : World) : Prop :=
  ∃ (D : Nat) (v : Value), e = .returned (.tuple #[.pointer (some ⟨D + 2, 0, none⟩), .func (.func 38) #[] #[.pointer (some ⟨D + 1, 0, none⟩)]]) ∧ Below w.heap.size w w' ∧ w.heap.size ≤ D ∧ D + 3 = w'.heap.size ∧ Dsv w' w.heap.size D v df false

set_option maxRecDepth 100000 in
theorem zzmake_any (A : Option Addr) (cap : Nat) (df : List Int) (w : World) (hr : ReadsOf i64 0 w A df.length df) (hn : df.length ≤ 4294967296) :
    Calls Tryd.prog 24 #[.slice A df.length cap] w (MadeEnd df w) := by
  have HR := Lib.hid hr
  clear hr
  go_enter Tryd.func24, Tryd.ntmps24
  go_wp2_with fail
  go_loopw [4, 11] (fun ov iv wr => ∃ (k : Nat), k ≤ df.length ∧ iv = .int .i64 k ∧ wr.ownsRow w.heap.size 77 1 ov (df.take k).length (encs i64 (df.take k)) ∧ Below w.heap.size w wr) (fun _ iv _ => df.length - (intOf iv).toNat)
  case atStart => exact ⟨0, Nat.zero_le _, rfl, own_lit_of (enc := i64) w w.heap.size 77 [] (Nat.le_refl _) (by simp), (Below.refl _ _).alloc (Nat.le_refl _) _⟩
  case round =>
    obtain ⟨k, hk, rfl, hown, hb⟩ := hrel
    by_cases hlt : k < df.length
    · have p1 : decide ((k : Int) < (df.length : Int)) = true := by simp; omega
      obtain ⟨ad, rfl, h1⟩ := (HR.out.below hb).at_ (k : Int) (by omega) (by omega)
      rw [Int.toNat_natCast] at h1
      have hx : rdOf 0 df (k : Int) = df[k] := by simp [rdOf, List.getD_eq_getElem?_getD, List.getElem?_eq_getElem hlt]
      have htk : df.take (k + 1) = df.take k ++ [df[k]] := List.take_succ_eq_append_getElem hlt
      rw [hx] at h1
      obtain ⟨x, hx⟩ : ∃ x, df[k] = x := ⟨_, rfl⟩
      rw [hx] at h1 htk
      have HTK := Lib.hid htk
      have hlen : (df.take k).length = k := by rw [List.length_take]; omega
      clear hx htk
      go_wp2_with (at_builtin; refine print_append_of i64 w.heap.size rfl (.tmp 15) (.tmp 17) 84 77 (.int .i64 0) 8 rfl Tryd.underlying84 info77 rfl (by omega) _ (df.take k) _ rfl rfl rfl hown hb hb.size (by omega) ?_; intro v1 w1 ho1 hb1 hg1 _)
      rw [← HTK.out] at ho1
      exact ⟨⟨k + 1, by omega, by simp, ho1, hb1⟩, by simp [intOf]; omega⟩
    · obtain rfl : k = df.length := by omega
      have p1 : decide ((df.length : Int) < (df.length : Int)) = false := by simp
      rw [List.take_length] at hown
      obtain ⟨A2, c2, rfl⟩ := own_slice hown
      go_wp2
      go_ret2
      refine ⟨wr.heap.size, .slice A2 df.length c2, rfl, ?_, hb.size, ?_, ⟨?_, ?_, ?_, ?_⟩⟩
      · exact (((hb.alloc hb.size _).alloc (by have := hb.size; simp; omega) _).alloc (by have := hb.size; simp; omega) _)
      · simp
      · exact (three wr _ _ _).1
      · exact (three wr _ _ _).2.1
      · exact (three wr _ _ _).2.2
      · exact own_alloc (own_alloc (own_alloc hown _) _) _

set_option maxRecDepth 100000 in
theorem zznow_any (base D : Nat) (v : Value) (it : List Int) (ch : Bool) (w : World) (h : Dsv w base D v it ch) (hn : it.length ≤ 4294967296) :
    Calls Tryd.prog 38 #[.pointer (some ⟨D + 1, 0, none⟩)] w fun e w' => ∃ r, e = .returned r ∧ Below w.heap.size w w' ∧ w'.ownsRow w.heap.size 2 1 r it.length (encs i64 it) := by
  have g1 := h.p
  have g2 := h.c
  obtain ⟨A, c, rfl, hcap, hr⟩ := own_reads_of_le (d := 0) h.own
  have HR := Lib.hid hr
  clear hr h
  have hb0 : Below w.heap.size w (w.alloc (.cells #[] 2)) := (Below.refl _ _).alloc (Nat.le_refl _) _
  have g1' := pw_cell_below hb0 g1
  have g2' := pw_cell_below hb0 g2
  go_enter Tryd.func38, Tryd.ntmps38
  go_wp2_with fail
  go_loopw [2, 10] (fun ov iv wr => ∃ (k : Nat), k ≤ it.length ∧ iv = .int .i64 k ∧ wr.ownsRow w.heap.size 2 1 ov (it.take k).length (encs i64 (it.take k)) ∧ Below w.heap.size w wr) (fun _ iv _ => it.length - (intOf iv).toNat)
  case atStart => exact ⟨0, Nat.zero_le _, rfl, own_lit_of (enc := i64) w w.heap.size 2 [] (Nat.le_refl _) (by simp), (Below.refl _ _).alloc (Nat.le_refl _) _⟩
  case round =>
    obtain ⟨k, hk, rfl, hown, hb⟩ := hrel
    by_cases hlt : k < it.length
    · have p1 : decide ((k : Int) < (it.length : Int)) = true := by simp; omega
      obtain ⟨ad, rfl, h1⟩ := (HR.out.below hb).at_ (k : Int) (by omega) (by omega)
      rw [Int.toNat_natCast] at h1
      have hx : rdOf 0 it (k : Int) = it[k] := by simp [rdOf, List.getD_eq_getElem?_getD, List.getElem?_eq_getElem hlt]
      have htk : it.take (k + 1) = it.take k ++ [it[k]] := List.take_succ_eq_append_getElem hlt
      rw [hx] at h1
      obtain ⟨x, hx⟩ : ∃ x, it[k] = x := ⟨_, rfl⟩
      rw [hx] at h1 htk
      have HTK := Lib.hid htk
      have hlen : (it.take k).length = k := by rw [List.length_take]; omega
      clear hx htk
      go_wp2_with (at_builtin; refine print_append_of i64 w.heap.size rfl (.tmp 14) (.tmp 16) 33 2 (.int .i64 0) 8 rfl Tryd.underlying33 info2 rfl (by omega) _ (it.take k) _ rfl rfl rfl hown hb hb.size (by omega) ?_; intro v1 w1 ho1 hb1 hg1 _)
      rw [← HTK.out] at ho1
      exact ⟨⟨k + 1, by omega, by simp, ho1, hb1⟩, by simp [intOf]; omega⟩
    · obtain rfl : k = it.length := by omega
      have p1 : decide ((it.length : Int) < (it.length : Int)) = false := by simp
      rw [List.take_length] at hown
      go_wp2
      go_ret
      exact ⟨_, rfl, hb, hown⟩

theorem from_any (p : Value) (s : ByteArray) (w : World) (bm : Nat) (a : Addr) (hs : s.size ≤ 2147483647) (hu : UM w bm a) : Calls Tryd.prog 40 #[p, .string s] w (PDEnd s w) := by
  go_enter Tryd.func40, Tryd.ntmps40
  go_wp2_with fail
  refine (Parse_any s w bm a hs hu).mono ?_
  rintro e w1 ⟨hb, v, E, rfl, hv1, hv2, hE⟩
  go_wp2
  go_ret2
  exact ⟨hb, v, E, rfl, hv1, hv2, hE⟩
end Go.Proofs.YtjkmidohcidkiaaDoor.Li
