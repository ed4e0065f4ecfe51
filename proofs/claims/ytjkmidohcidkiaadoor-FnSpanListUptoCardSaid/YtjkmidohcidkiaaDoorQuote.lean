/- The walk of time.quote: it returns a text that is not too long. -/
import Derived.Test.YtjkmidohcidkiaaDoorPFnSpansx0
import Derived.Outline
import Derived.Lib.Hide
import Derived.Lib.OthersKept
import Derived.Deep.LoopGhost
import Derived.Deep.DeepCutAuto
namespace Go.Proofs.YtjkmidohcidkiaaDoor.Qu
open Go.RowKit Go.Proofs.YtjkmidohcidkiaaDoorW.PrintWords

def Good (s : ByteArray) (pos : Nat) (d : Nat × Nat) : Prop := 1 ≤ d.2 ∧ d.2 ≤ 4 ∧ pos + d.2 ≤ s.size ∧ d.1 ≤ 1114111 ∧ (d.1 ≠ 65533 → (Utf8.encode (d.1 : Int)).size = d.2)
theorem decode_width (s : ByteArray) (pos : Nat) (h : pos < s.size) : Good s pos (Utf8.decode s pos) := by
  have hb : ∀ k, (s.get! k).toNat < 256 := fun k => (s.get! k).toNat_lt
  have b0 := hb pos
  have b1 := hb (pos + 1)
  have b2 := hb (pos + 2)
  have b3 := hb (pos + 3)
  unfold Utf8.decode
  simp only [Utf8.runeError, Nat.add_zero]
  have enc1 : ∀ c : Nat, c < 128 → (Utf8.encode (c : Int)).size = 1 := by
    intro c hc
    have hv : Utf8.valid (c : Int) = true := by simp [Utf8.valid]; omega
    simp [Utf8.encode, hv, hc]
    rfl
  have enc2 : ∀ c : Nat, 128 ≤ c → c < 2048 → (Utf8.encode (c : Int)).size = 2 := by
    intro c hc hc2
    have hv : Utf8.valid (c : Int) = true := by simp [Utf8.valid]; omega
    simp [Utf8.encode, hv, hc2, show ¬ c < 128 by omega]
    rfl
  have enc3 : ∀ c : Nat, 2048 ≤ c → c < 65536 → Utf8.valid (c : Int) = true → (Utf8.encode (c : Int)).size = 3 := by
    intro c hc hc2 hv
    simp [Utf8.encode, hv, hc2, show ¬ c < 128 by omega, show ¬ c < 2048 by omega]
    rfl
  have enc4 : ∀ c : Nat, 65536 ≤ c → Utf8.valid (c : Int) = true → (Utf8.encode (c : Int)).size = 4 := by
    intro c hc hv
    simp [Utf8.encode, hv, show ¬ c < 128 by omega, show ¬ c < 2048 by omega, show ¬ c < 65536 by omega]
    rfl
  split
  · rename_i h0
    exact ⟨by simp, by simp, by simp; omega, by simp; omega, fun _ => enc1 _ h0⟩
  · split
    · rename_i h0 h1
      simp only [Bool.and_eq_true, decide_eq_true_eq, beq_iff_eq] at h1
      split
      · exact ⟨by simp, by simp, by simp; omega, by simp; omega, fun _ => enc2 _ (by omega) (by omega)⟩
      · exact ⟨by simp, by simp, by simp; omega, by simp, fun h => absurd rfl h⟩
    · split
      · rename_i h0 h1 h2
        simp only [Bool.and_eq_true, decide_eq_true_eq, beq_iff_eq] at h2
        split
        · rename_i h3
          simp only [Bool.and_eq_true, decide_eq_true_eq] at h3
          exact ⟨by simp, by simp, by simp; omega, by simp; omega, fun _ => enc3 _ (by omega) (by omega) h3.2⟩
        · exact ⟨by simp, by simp, by simp; omega, by simp, fun h => absurd rfl h⟩
      · split
        · rename_i h0 h1 h2 h3
          simp only [Bool.and_eq_true, decide_eq_true_eq, beq_iff_eq] at h3
          split
          · rename_i h4
            simp only [Bool.and_eq_true, decide_eq_true_eq] at h4
            have hv : ((s.get! pos).toNat % 8) * 262144 + ((s.get! (pos + 1)).toNat % 64) * 4096 + ((s.get! (pos + 2)).toNat % 64) * 64 + (s.get! (pos + 3)).toNat % 64 ≤ 1114111 := by
              have := h4.2
              simp [Utf8.valid] at this
              omega
            exact ⟨by simp, by simp, by simp; omega, hv, fun _ => enc4 _ (by omega) h4.2⟩
          · exact ⟨by simp, by simp, by simp; omega, by simp, fun h => absurd rfl h⟩
        · exact ⟨by simp, by simp, by simp; omega, by simp, fun h => absurd rfl h⟩

structure QS (w0 wr : World) (s : ByteArray) (pos : Nat) (v : Value) (xs : List Int) (bound : Nat) : Prop where
  own : wr.ownsRow w0.heap.size 5 1 v xs.length (nums .u8 xs)
  itr : wr.heap[w0.heap.size + 1]? = some (.stringIter s pos)
  below : Below w0.heap.size w0 wr
  len : xs.length ≤ bound

theorem QS.lt {w0 wr : World} {s : ByteArray} {pos : Nat} {v : Value} {xs : List Int} {b : Nat} (h : QS w0 wr s pos v xs b) : w0.heap.size + 2 ≤ wr.heap.size := (Array.getElem?_eq_some_iff.1 h.itr).1
theorem QS.ne {w0 wr : World} {s : ByteArray} {pos : Nat} {v : Value} {xs : List Int} {b : Nat} (h : QS w0 wr s pos v xs b) : some (w0.heap.size + 1) ≠ v.ownBlock := by
  intro he
  obtain ⟨cells, hc⟩ := own_typed h.own (w0.heap.size + 1) he.symm
  rw [h.itr] at hc
  cases hc
theorem QS.app {w0 wr w1 : World} {s : ByteArray} {pos : Nat} {v v1 : Value} {xs ys : List Int} {b : Nat} (h : QS w0 wr s pos v xs b)
    (ho : w1.ownsRow w0.heap.size 5 1 v1 (xs ++ ys).length (nums .u8 (xs ++ ys))) (hb : Below w0.heap.size w0 w1) (hg : wr.grownBy w1 v.ownBlock) : QS w0 w1 s pos v1 (xs ++ ys) (b + ys.length) :=
  ⟨ho, (hg.block _ (by have := h.lt; omega) h.ne).trans h.itr, hb, by have := h.len; simp; omega⟩
theorem QS.move {w0 wr : World} {s : ByteArray} {pos : Nat} {v : Value} {xs : List Int} {b : Nat} (h : QS w0 wr s pos v xs b) (pos' : Nat) : QS w0 (wr.iterAt (w0.heap.size + 1) s pos') s pos' v xs b := by
  refine ⟨?_, Lib.iterAt_heap _ _ _ _ _ h.itr, Lib.below_iterAt h.below (by omega) _ _, h.len⟩
  exact own_move h.own (fun k hk => Lib.iterAt_other _ _ _ _ _ (fun e => h.ne (by rw [hk, e])))
theorem QS.bound {w0 wr : World} {s : ByteArray} {pos : Nat} {v : Value} {xs : List Int} {b b' : Nat} (h : QS w0 wr s pos v xs b) (hb : b ≤ b') : QS w0 wr s pos v xs b' := ⟨h.own, h.itr, h.below, Nat.le_trans h.len hb⟩

theorem QS.start (w : World) (s : ByteArray) (hs : s.size ≤ 2147483647) :
    QS w ((w.alloc (.cells ((madeCells #[.int .u8 0] (s.size + 2)).setIfInBounds 0 (.int .u8 34)) 5)).iter s 0) s 0 (.slice (some ⟨w.heap.size, 0, none⟩) 1 (s.size + 2)) [34] 1 := by
  refine ⟨⟨rfl, .inr ⟨w.heap.size, s.size + 2, (madeCells #[.int .u8 0] (s.size + 2)).setIfInBounds 0 (.int .u8 34), rfl, Nat.le_refl _, ?_, by simp, by simp only [maxLen]; omega, by simp [size_madeCells], ?_⟩⟩, ?_, ?_, by simp⟩
  · exact (Below.heap_alloc _ _ _ (by simp)).trans (heap_alloc_new w _)
  · obtain ⟨n, hn⟩ : ∃ n, s.size + 2 = n + 1 := ⟨s.size + 1, by omega⟩
    rw [hn]
    simp [madeCells, nums, List.range_succ_eq_map]
  · have := World.iter_heap (w.alloc (.cells ((madeCells #[.int .u8 0] (s.size + 2)).setIfInBounds 0 (.int .u8 34)) 5)) s 0
    simpa using this
  · exact (((Below.refl _ w).alloc (Nat.le_refl _) _).alloc (by simp) _)

def QEnd (s : ByteArray) (w : World) (e : Ending) (w' : World) : Prop := ∃ q : ByteArray, e = .returned (.string q) ∧ q.size ≤ 12 * s.size + 2 ∧ Below w.heap.size w w'

set_option maxRecDepth 100000 in
set_option maxHeartbeats 1600000 in
theorem quote_any (s : ByteArray) (w : World) (hs : s.size ≤ 2147483647) : Calls Tryd.prog 44 #[.string s] w (QEnd s w) := by
  obtain ⟨i0, hi, hz0, hz1, hz2⟩ := info_parts PFnSpans.info5
  have hmk : ∀ W : World, (Instr.makeSlice 83 (.int .i64 1) (.int .i64 ((s.size : Int) + 2))).run Tryd.prog W = .ok (.slice (some ⟨W.heap.size, 0, none⟩) 1 (s.size + 2)) (W.alloc (.cells (madeCells #[.int .u8 0] (s.size + 2)) 5)) := by
    intro W
    have h := run_make (P := Tryd.prog) W 83 5 i0 (.int .u8 0) Tryd.underlying83 hi hz0 .i64 .i64 1 ((s.size : Int) + 2) (by omega) (by omega) (by rw [hz2]; omega) (by omega)
    have e1 : ((s.size : Int) + 2).toNat = s.size + 2 := by omega
    rw [e1, hz1] at h
    simpa [Value.cells] using h
  clear hi hz0 hz1 hz2
  have hcell : (w.alloc (.cells (madeCells #[.int .u8 0] (s.size + 2)) 5)).cell? ⟨w.heap.size, 0, none⟩ = some (.int .u8 0) := by
    rw [blk_cell (heap_alloc_new w _)]
    simp [madeCells]
  go_enter Tryd.func44, Tryd.ntmps44
  go_wp2_with fail
  go_loopg [3] s.size (fun gk v wr => ∃ (pos : Nat) (xs : List Int), gk = s.size - pos ∧ pos ≤ s.size ∧ QS w wr s pos v xs (12 * pos + 1))
  case atStart => exact ⟨0, [34], rfl, Nat.zero_le _, QS.start w s hs⟩
  case round =>
    obtain ⟨pos, xs, rfl, hpl, hq⟩ := hrel
    have hsz := hq.lt
    by_cases hp : pos < s.size
    · obtain ⟨c, n, hdec⟩ : ∃ c n, Utf8.decode s pos = (c, n) := ⟨_, _, rfl⟩
      have hgood := decode_width s pos hp
      have hnx : ∀ ty, (Instr.next (.pointer (some ⟨w.heap.size + 1, 0, none⟩)) true ty).run Tryd.prog wr = _ := fun ty => Lib.run_next_any_at wr (w.heap.size + 1) s pos ty hq.itr hp
      rw [hdec] at hnx hgood
      obtain ⟨g1, g5, g2, g3, g4⟩ := hgood
      have hq2 := hq.move (pos + n)
      dsimp only at hnx g1 g2 g3 g4 g5
      have G4 := Lib.hid g4
      clear g4 hdec
      generalize hw2 : wr.iterAt (w.heap.size + 1) s (pos + n) = wr2 at hnx hq2
      by_cases hesc : 128 ≤ c ∨ c < 32
      · have hsz2 := hq2.lt
        have hlen := hq2.len
        have hcut0 : (decide ((128 : Int) ≤ (c : Int)) = true) ∨ (decide ((128 : Int) ≤ (c : Int)) = false ∧ decide ((c : Int) < 32) = true) := by
          rcases Nat.lt_or_ge c 128 with h | h
          · right; simp; omega
          · left; simp; omega
        clear hesc
        rcases hcut0 with t21 | ⟨t21, t24⟩
        all_goals
          go_upto_if 27 with (fail)
          go_cut [6] (fun a w1 => ∃ wd : Nat, a = .int .i64 wd ∧ wd ≤ 4 ∧ pos + wd ≤ s.size ∧ wd ≤ 3 * n ∧ w1 = wr2)
          case first =>
            by_cases hc : c = 65533
            · have t27 : ((c : Int) == 65533) = true := by simp; omega
              rw [t27]
              clear hc
              by_cases hp2 : pos + 2 < s.size
              · have t32 : decide ((pos : Int) + 2 < (s.size : Int)) = true := by simp; omega
                have hp3 : pos + 3 ≤ s.size := by omega
                have hsl : ∀ W : World, (Instr.slice 9 (.string s) (some (.int .i64 (pos : Int))) (some (.int .i64 ((pos : Int) + 3))) none).run Tryd.prog W = .ok (.string (s.extract pos (pos + 3))) W := fun W => by
                  have h := run_slice_string (P := Tryd.prog) W 9 s .i64 .i64 (pos : Int) ((pos : Int) + 3) Tryd.underlying9 (by omega) (by omega) (by omega)
                  rwa [Int.toNat_natCast, show ((pos : Int) + 3).toNat = pos + 3 by omega] at h
                go_wp2
                all_goals go_meet
                all_goals first | exact ⟨3, rfl, by omega, by omega, by omega, rfl⟩ | exact ⟨1, rfl, by omega, by omega, by omega, rfl⟩
              · have t32 : decide ((pos : Int) + 2 < (s.size : Int)) = false := by simp; omega
                go_wp2
                go_meet
                exact ⟨1, rfl, by omega, by omega, by omega, rfl⟩
            · have t27 : ((c : Int) == 65533) = false := by simp; omega
              have hsz := G4.out hc
              rw [t27]
              clear hc
              have Hsz := Lib.hid hsz
              clear hsz
              go_wp2
              go_meet
              exact ⟨n, by rw [Hsz.out], g5, by omega, by omega, rfl⟩
          case rest =>
            obtain ⟨wd, rfl, hw4, hwp, hwn, rfl⟩ := hcut
            clear t21
            go_wp2_with fail
            go_loopw [3, 7] (fun v j w1 => ∃ (k : Nat) (ys : List Int), j = .int .i64 k ∧ k ≤ wd ∧ QS w w1 s (pos + n) v ys (12 * pos + 1 + 4 * k)) (fun _ j _ => wd - (intOf j).toNat)
            case atStart => exact ⟨0, xs, rfl, Nat.zero_le _, hq2⟩
            case round =>
              obtain ⟨k, ys, rfl, hkw, hy⟩ := hrel
              have hyl := hy.len
              have hys := hy.lt
              by_cases hk : k < wd
              · have hx : pos + k < s.size := by omega
                have hb := (s[pos + k]).toNat_lt
                go_wp2_with (first
                  | (at_builtin; refine print_append_str w.heap.size rfl (.tmp 49) (.const (.string ⟨#[92, 120]⟩)) 83 9 5 rfl Tryd.underlying83 Tryd.underlying9 PFnSpans.info5 _ ys _ rfl rfl hy.own hy.below (by omega) (by show _ + 2 ≤ _; omega) ?_; intro v1 w1 ho1 hb1 hg1; have hy1 := (hy.app ho1 hb1 hg1).bound (b' := 12 * pos + 1 + 4 * k + 2) (Nat.le_of_eq rfl); have hyl1 := hy1.len; have hys1 := hy1.lt)
                  | (at_builtin; refine print_append_num w.heap.size rfl (.tmp 51) (.tmp 59) 83 5 .u8 1 rfl Tryd.underlying83 PFnSpans.info5 (by omega) _ _ _ rfl rfl hy1.own hy1.below (by omega) (by omega) ?_; intro v2 w2 ho2 hb2 hg2 _; have hy2 := (hy1.app ho2 hb2 hg2).bound (b' := 12 * pos + 1 + 4 * k + 3) (Nat.le_of_eq rfl); have hyl2 := hy2.len; have hys2 := hy2.lt)
                  | (at_builtin; refine print_append_num w.heap.size rfl (.tmp 61) (.tmp 69) 83 5 .u8 1 rfl Tryd.underlying83 PFnSpans.info5 (by omega) _ _ _ rfl rfl hy2.own hy2.below (by omega) (by omega) ?_; intro v3 w3 ho3 hb3 hg3 _; have hy3 := (hy2.app ho3 hb3 hg3).bound (b' := 12 * pos + 1 + 4 * k + 4) (Nat.le_of_eq rfl)))
                exact ⟨⟨k + 1, _, by simp, by omega, hy3.bound (by omega)⟩, by simp [intOf]; omega⟩
              · obtain rfl : k = wd := by omega
                go_wp2_with fail
                go_roundg (s.size - (pos + n))
                case measure => omega
                case rel => exact ⟨pos + n, _, rfl, by omega, hy.bound (by omega)⟩
      · have t21 : decide ((128 : Int) ≤ (c : Int)) = false := by simp; omega
        have t24 : decide ((c : Int) < 32) = false := by simp; omega
        by_cases hbs : c = 34 ∨ c = 92
        · have hsz2 := hq2.lt
          have hlen := hq2.len
          have Hbs := Lib.hid hbs
          clear hbs hesc
          have key : ∀ (t72 : Bool), ((c : Int) == 34) = t72 → (t72 = false → ((c : Int) == 92) = true) := fun t72 h1 h2 => by
            subst h1
            rcases Hbs.out with h | h
            · subst h; simp at h2
            · subst h; rfl
          rcases hb : ((c : Int) == 34) with _ | _
          · have t75 := key _ hb rfl
            clear key
            go_wp2_with (first
              | (at_builtin; refine print_append_num w.heap.size rfl (.tmp 77) (.tmp 78) 83 5 .u8 1 rfl Tryd.underlying83 PFnSpans.info5 (by omega) _ xs _ rfl rfl hq2.own hq2.below (by omega) (by omega) ?_; intro v1 w1 ho1 hb1 hg1 _; have hq3 := hq2.app ho1 hb1 hg1; have hsz3 := hq3.lt; have hlen3 := hq3.len)
              | (at_builtin; refine print_append_num w.heap.size rfl (.tmp 80) (.tmp 83) 83 5 .u8 1 rfl Tryd.underlying83 PFnSpans.info5 (by omega) _ _ _ rfl rfl hq3.own hq3.below (by omega) (by simp at hlen3 ⊢; omega) ?_; intro v2 w2 ho2 hb2 hg2 _; have hq4 := hq3.app ho2 hb2 hg2))
            go_roundg (s.size - (pos + n))
            case measure => omega
            case rel => exact ⟨pos + n, _, rfl, by omega, hq4.bound (by simp; omega)⟩
          · clear key
            go_wp2_with (first
              | (at_builtin; refine print_append_num w.heap.size rfl (.tmp 77) (.tmp 78) 83 5 .u8 1 rfl Tryd.underlying83 PFnSpans.info5 (by omega) _ xs _ rfl rfl hq2.own hq2.below (by omega) (by omega) ?_; intro v1 w1 ho1 hb1 hg1 _; have hq3 := hq2.app ho1 hb1 hg1; have hsz3 := hq3.lt; have hlen3 := hq3.len)
              | (at_builtin; refine print_append_num w.heap.size rfl (.tmp 80) (.tmp 83) 83 5 .u8 1 rfl Tryd.underlying83 PFnSpans.info5 (by omega) _ _ _ rfl rfl hq3.own hq3.below (by omega) (by simp at hlen3 ⊢; omega) ?_; intro v2 w2 ho2 hb2 hg2 _; have hq4 := hq3.app ho2 hb2 hg2))
            go_roundg (s.size - (pos + n))
            case measure => omega
            case rel => exact ⟨pos + n, _, rfl, by omega, hq4.bound (by simp; omega)⟩
        · have t72 : ((c : Int) == 34) = false := by simp; omega
          have t75 : ((c : Int) == 92) = false := by simp; omega
          have hsz2 := hq2.lt
          have hlen := hq2.len
          clear hbs hesc
          go_wp2_with (at_builtin; refine print_append_num w.heap.size rfl (.tmp 80) (.tmp 83) 83 5 .u8 1 rfl Tryd.underlying83 PFnSpans.info5 (by omega) _ xs _ rfl rfl hq2.own hq2.below (by omega) (by omega) ?_; intro v1 w1 ho1 hb1 hg1 _)
          have hq3 := hq2.app ho1 hb1 hg1
          go_wp2
          go_roundg (s.size - (pos + n))
          case measure => omega
          case rel => exact ⟨pos + n, _, rfl, by omega, hq3.bound (by simp; omega)⟩
    · have hnx : ∀ ty, (Instr.next (.pointer (some ⟨w.heap.size + 1, 0, none⟩)) true ty).run Tryd.prog wr = _ := fun ty => Lib.run_next_end_at wr (w.heap.size + 1) s pos ty hq.itr hp
      have hlen := hq.len
      go_wp2_with (at_builtin; refine print_append_num w.heap.size rfl (.tmp 85) (.tmp 86) 83 5 .u8 1 rfl Tryd.underlying83 PFnSpans.info5 (by omega) _ xs _ rfl rfl hq.own hq.below (by omega) (by omega) ?_; intro v1 w1 ho1 hb1 hg1 _; have hcv := own_string (P := Tryd.prog) (dst := 9) Tryd.underlying83 Tryd.underlying5 Tryd.underlying9 ho1)
      go_ret
      exact ⟨_, rfl, by rw [strOfNums_size]; simp; omega, hb1⟩
end Go.Proofs.YtjkmidohcidkiaaDoor.Qu
