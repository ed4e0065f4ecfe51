/- The walks of a list of durations' Set, Append and Replace. -/
import Derived.Test.YtjkmidohcidkiaaDoorDsv
namespace Go.Proofs.YtjkmidohcidkiaaDoor.Li
open Go.RowKit Go.Proofs.YtjkmidohcidkiaaDoorW.PrintWords Go.Proofs.YtjkmidohcidkiaaDoor.Sp Go.Proofs.YtjkmidohcidkiaaDoor.Fmt Go.Proofs.YtjkmidohcidkiaaDoor.Zz

/-- What a turn of the value leaves: all but its own three places. -/
structure Fr (w w' : World) (D : Nat) (v : Value) : Prop where
  os : w'.os = w.os
  tape : w'.tape = w.tape
  output : w'.output = w.output
  size : w.heap.size ≤ w'.heap.size
  block : ∀ k, k < w.heap.size → k ≠ D → k ≠ D + 2 → some k ≠ v.ownBlock → w'.heap[k]? = w.heap[k]?
theorem Fr.of_below {w w' : World} {D : Nat} {v : Value} (h : Below w.heap.size w w') : Fr w w' D v := ⟨h.os, h.tape, h.output, h.size, fun k hk _ _ _ => h.block k hk⟩
theorem Fr.setCell {w w' : World} {D : Nat} {v : Value} (h : Fr w w' D v) (p : Addr) (u : Value) (hp : p.block = D ∨ p.block = D + 2) : Fr w (w'.setCell p u) D v :=
  ⟨h.os, h.tape, h.output, Nat.le_trans h.size (by simp [World.setCell]), fun k hk h1 h2 h3 => (Below.heap_setCell w' p u k (by rcases hp with e | e <;> omega)).trans (h.block k hk h1 h2 h3)⟩
theorem Fr.grown {w w' w2 : World} {D : Nat} {v : Value} (h : Fr w w' D v) (hg : w'.grownBy w2 v.ownBlock) : Fr w w2 D v :=
  ⟨hg.os.trans h.os, hg.tape.trans h.tape, hg.output.trans h.output, Nat.le_trans h.size hg.size, fun k hk h1 h2 h3 => (hg.block k (Nat.lt_of_lt_of_le hk h.size) h3).trans (h.block k hk h1 h2 h3)⟩

theorem Dsv.put1 {W : World} {base D : Nat} {v : Value} {it : List Int} {ch : Bool} (h : Dsv W base D v it ch) {v' : Value} {it' : List Int} (ho : W.ownsRow base 77 1 v' it'.length (encs i64 it')) :
    Dsv (W.setCell ⟨D, 0, none⟩ v') base D v' it' ch :=
  ⟨blk_put h.cellP 0 v' rfl, blk_far h.cellC (by simp) _, blk_far h.cellD (by simp) _, own_setCell ho (own_ne ho h.cellP (by decide)) _⟩
theorem Dsv.put2 {W : World} {base D : Nat} {v : Value} {it : List Int} {ch : Bool} (h : Dsv W base D v it ch) : Dsv (W.setCell ⟨D + 2, 1, none⟩ (.bool true)) base D v it true :=
  ⟨blk_far h.cellP (by simp) _, blk_far h.cellC (by simp) _, blk_put h.cellD 1 _ rfl, own_setCell h.own (own_ne h.own h.cellD (by decide)) _⟩
/-- Behind an append to the value's own list. -/
theorem Dsv.app {W W' : World} {base D : Nat} {v : Value} {it : List Int} {ch : Bool} (h : Dsv W base D v it ch) (hg : W.grownBy W' v.ownBlock) {v' : Value} {it' : List Int} (ho : W'.ownsRow base 77 1 v' it'.length (encs i64 it')) :
    Dsv (W'.setCell ⟨D, 0, none⟩ v') base D v' it' ch := by
  have h1 := blk_grown h.cellP hg (own_ne h.own h.cellP (by decide))
  have h2 := blk_grown h.cellC hg (own_ne h.own h.cellC (by decide))
  have h3 := blk_grown h.cellD hg (own_ne h.own h.cellD (by decide))
  exact ⟨blk_put h1 0 v' rfl, blk_far h2 (by simp) _, blk_far h3 (by simp) _, own_setCell ho (own_ne ho h1 (by decide)) _⟩

/-- A step's outcome. -/
def TurnEnd (L : List (List UInt8)) (first : Bool) (setc : Bool) (base D : Nat) (v : Value) (it : List Int) (ch : Bool) (w : World) (e : Ending) (w' : World) : Prop :=
  ∃ (E : Value) (err : Bool) (vs : List Int) (v' : Value) (it' : List Int) (ch' : Bool), e = .returned E ∧ ((E = .nilIface ∧ err = false) ∨ (∃ p, E = .iface 90 (.pointer (some p)) ∧ err = true)) ∧
    ImplOut L vs err ∧ ((err = true ∧ it' = it ∧ ch' = ch) ∨ (err = false ∧ it' = (if first = true then vs else it ++ vs) ∧ ch' = (ch || setc))) ∧ Dsv w' base D v' it' ch' ∧ Fr w w' D v

/-- The values that a make's block is filled with, so far. -/
def Filled (L : List ByteArray) (k : Nat) (xs : List Int) : Prop := xs.length = L.length ∧ ∀ (i : Nat) (t : ByteArray) (v : Int), i < k → L[i]? = some t → xs[i]? = some v → spanR (bl t) = .fit v ∨ spanR (bl t) = .opn
theorem Filled.zero (L : List ByteArray) : Filled L 0 (List.replicate L.length 0) := ⟨by simp, fun i _ _ hi => by omega⟩
theorem Filled.step {L : List ByteArray} {k : Nat} {xs : List Int} (h : Filled L k xs) {s : ByteArray} {v : Int} (hs : L[k]? = some s) (hv : spanR (bl s) = .fit v ∨ spanR (bl s) = .opn) : Filled L (k + 1) (xs.set k v) := by
  refine ⟨by simp [h.1], fun i t u hi ht hu => ?_⟩
  by_cases e : i = k
  · subst e
    have hk : i < L.length := (List.getElem?_eq_some_iff.1 hs).1
    rw [List.getElem?_set_self (by rw [h.1]; exact hk)] at hu
    rw [hs] at ht
    cases ht; cases hu
    exact hv
  · rw [List.getElem?_set_ne (by omega)] at hu
    exact h.2 i t u (by omega) ht hu
theorem Filled.out {L : List ByteArray} {xs : List Int} (h : Filled L L.length xs) : ImplOut (L.map bl) xs false := by
  refine .inl ⟨rfl, by simp [h.1], fun i t v ht hv => ?_⟩
  rw [List.getElem?_map] at ht
  obtain ⟨s, hs, rfl⟩ := Option.map_eq_some_iff.1 ht
  exact h.2 i s v (List.getElem?_eq_some_iff.1 hs).1 hs hv
theorem Filled.bad {L : List ByteArray} {k : Nat} {xs : List Int} (h : Filled L k xs) {s : ByteArray} (hs : L[k]? = some s) (hv : NoFit (spanR (bl s))) (vs : List Int) : ImplOut (L.map bl) vs true := by
  refine .inr ⟨rfl, k, bl s, by rw [List.getElem?_map, hs]; rfl, hv, fun j u hj hu => ?_⟩
  rw [List.getElem?_map] at hu
  obtain ⟨t, ht, rfl⟩ := Option.map_eq_some_iff.1 hu
  have hjl : j < xs.length := by rw [h.1]; exact (List.getElem?_eq_some_iff.1 ht).1
  rcases h.2 j t _ hj ht (List.getElem?_eq_getElem hjl) with e | e
  · exact .inl ⟨_, e⟩
  · exact .inr e

section
variable {P : Program} {ops : Array Oper} {o : Oper} {a : Act} {K : Act → World → Prop} {Q : Exit → Act → World → Prop} {E : Prop}
theorem run_append_row_of {α : Type} (enc : α → Value) (d : α) {W : World} (base : Nat) (t ty e : TypeId) (z : Value) (bytes : Nat)
    (ht : P.underlying t = some (.slice e)) (hinfo : (P.info? e).map (fun i => (i.zero, i.size, i.bytes)) = some (some z, 1, bytes)) (hz : z.cells.size = 1) (hb0 : 0 < bytes) (h1 : ∀ x : α, (enc x).oneCell' = true)
    (v : Value) (xs ys : List α) (A : Option Addr) (m c : Nat)
    (HO : W.ownsRow base e 1 v xs.length (encs enc xs)) (HR : ReadsOf enc d W A m ys) (hbase : base ≤ W.heap.size) (hl : (xs.length + m) * bytes ≤ 140737488355328) :
    ∃ v1 w1, (Builtin.append_ #[t, t] ty #[v, .slice A m c]).run P W = .ok v1 w1 ∧ w1.ownsRow base e 1 v1 (xs ++ ys).length (encs enc (xs ++ ys)) ∧ W.grownBy w1 v.ownBlock ∧ (v1.ownBlock = v.ownBlock ∨ v1.ownBlock = some W.heap.size) := by
  obtain ⟨i0, hi, hzz⟩ := Option.map_eq_some_iff.1 hinfo
  simp only [Prod.mk.injEq] at hzz
  obtain ⟨hz0, hz1, hz2⟩ := hzz
  have hm : ys.length = m := HR.1
  have hlen : xs.length + m ≤ 140737488355328 := Nat.le_trans (Nat.le_mul_of_pos_right _ hb0) hl
  rcases A with _ | ad
  · have h0 : m = 0 := by
      rcases Nat.eq_zero_or_pos m with h0 | h0
      · exact h0
      · obtain ⟨ad, h, _⟩ := HR.2.2 h0
        cases h
    subst h0
    obtain rfl : ys = [] := List.eq_nil_of_length_eq_zero hm
    refine ⟨v, W, ?_, by simpa using HO, World.grownBy.refl W _, .inl rfl⟩
    rcases HO.2 with ⟨rfl, hn⟩ | ⟨g, cap, cur, rfl, _, _, hnc, _⟩
    · simp [Builtin.append_, run_underlying ht, sizeOf, typeInfo, hi, Builtin.lenOf, Builtin.firstCells]
    · simp [Builtin.append_, run_underlying ht, sizeOf, typeInfo, hi, Builtin.lenOf, Builtin.firstCells, hnc, storeCells]
  · have hcells : ∀ j u, (encs enc ys)[j]? = some u → W.cell? (ad.add j) = some u := by
      intro j u hu
      have hj : j < ys.length := by
        rcases Nat.lt_or_ge j ys.length with h | h
        · exact h
        · simp [encs, List.getElem?_eq_none h] at hu
      obtain ⟨ad', h', hc⟩ := HR.2.2 (by omega)
      injection h' with h'
      subst h'
      rw [encs_get (d := d) ys j hj] at hu
      rw [← hu]
      exact hc j (by omega)
    obtain ⟨v1, w1, hr, h2, h3, _, h5⟩ := run_append_own_at (P := P) W base t ty e i0 z 1 bytes ht hi hz0 hz1 hz2 hz (by omega) v xs.length (encs enc xs) HO ad m c (encs enc ys) (by simp [encs, hm]) hcells
      (by intro u hu; simp only [encs, List.mem_map] at hu; obtain ⟨q, _, rfl⟩ := hu; exact h1 q) (by simp only [maxLen]; omega) hl hbase
    exact ⟨v1, w1, hr, by simpa [encs, hm] using h2, h3, h5⟩
theorem step_append_row_of {α : Type} (enc : α → Value) (d : α) {W : World} (base : Nat) (hw : Region.wanted o (yielded ops a.tmps) = true) (s x : Operand) (t e : TypeId) (z : Value) (bytes : Nat)
    (ho : o.op = .call { callee := .builtin .append, args := #[s, x], argTypes := #[t, t] })
    (ht : P.underlying t = some (.slice e)) (hinfo : (P.info? e).map (fun i => (i.zero, i.size, i.bytes)) = some (some z, 1, bytes)) (hz : z.cells.size = 1) (hb0 : 0 < bytes) (h1 : ∀ x : α, (enc x).oneCell' = true)
    (v : Value) (xs ys : List α) (A : Option Addr) (m c : Nat) (hs : a.eval s = v) (hx : a.eval x = .slice A m c)
    (HO : W.ownsRow base e 1 v xs.length (encs enc xs)) (HR : ReadsOf enc d W A m ys) (hbase : base ≤ W.heap.size) (hl : (xs.length + m) * bytes ≤ 140737488355328)
    (h : ∀ v1 w1, w1.ownsRow base e 1 v1 (xs ++ ys).length (encs enc (xs ++ ys)) → W.grownBy w1 v.ownBlock → (v1.ownBlock = v.ownBlock ∨ v1.ownBlock = some W.heap.size) → K (a.put o.dst v1) w1) :
    if Region.wanted o (yielded ops a.tmps) = true then Oper.wp P o a W K Q else E := by
  obtain ⟨v1, w1, hr, h2, h3, h5⟩ := run_append_row_of (P := P) enc d base t o.type e z bytes ht hinfo hz hb0 h1 v xs ys A m c HO HR hbase hl
  rw [if_pos hw]
  unfold Oper.wp execOp
  simp only [ho, resolve, invoke, builtin, Sem.run_bind, Sem.run_pure, Result.andThen_ok, List.map_toArray, List.map_cons, List.map_nil, hs, hx, hr]
  exact h v1 w1 h2 h3 h5
end

set_option maxRecDepth 100000 in
set_option maxHeartbeats 400000 in
theorem dset_any (base D : Nat) (v : Value) (it : List Int) (ch : Bool) (s : ByteArray) (w : World) (bm : Nat) (a : Addr) (h : Dsv w base D v it ch) (hD : D + 3 ≤ w.heap.size) (hbase : base ≤ D) (hs : s.size ≤ 2147483647) (hit : it.length ≤ 4294967296) (hu : UM w bm a) :
    Calls Tryd.prog 25 #[.pointer (some ⟨D + 2, 0, none⟩), .string s] w (TurnEnd (commas [] (bl s)) (!ch) true base D v it ch w) := by
  go_enter Tryd.func25, Tryd.ntmps25
  go_wp2_with fail
  refine (split_any s w hs).mono ?_
  rintro e w2 ⟨v2, L, rfl, hL, hown, hb⟩
  obtain ⟨A, c, rfl, hcap, hrd⟩ := own_reads_of_le (d := ByteArray.empty) hown
  have hcl : L.length ≤ s.size + 1 := by have := commas_len (bl s) []; rw [← hL, bl_len, List.length_map] at this; exact this
  have hcs : ∀ x ∈ L, x.size ≤ s.size := fun x hx => by
    have := commas_small (bl s) [] (bl x) (by rw [← hL]; exact List.mem_map_of_mem hx)
    simpa [bl_len] using this
  have hmk := print_make_of (P := Tryd.prog) 84 77 (.int .i64 0) 8 Tryd.underlying84 info77 rfl (by omega) L.length (by omega)
  have hD2 := h.below hb
  have hu2 := um_below hu hb
  have HL := Lib.hid hL
  have HCS := Lib.hid hcs
  obtain ⟨G, hG⟩ : ∃ G, w2.heap.size = G := ⟨_, rfl⟩
  have hbm : Below w2.heap.size w2 (w2.alloc (.cells (madeCells #[i64 0] L.length) 77)) := (Below.refl _ _).alloc (Nat.le_refl _) _
  have hom := own_made_of (enc := i64) (d := 0) w2 w2.heap.size 77 L.length (Nat.le_refl _) (by omega)
  have hrd2 := hrd.below hbm
  have hD3 := hD2.below hbm
  have hu3 := um_below hu2 hbm
  have hb3 := hb.trans (hbm.mono hb.size)
  go_wp2_with fail
  rw [hG] at hom
  have hox0 : (w2.alloc (.cells (madeCells #[i64 0] L.length) 77)).ownsRow w.heap.size 77 1 (.slice (some ⟨G, 0, none⟩) L.length L.length) L.length (encs i64 (List.replicate L.length 0)) := own_weaken hom (by have := hb.size; omega)
  have hb0 := hb
  clear hbm hrd hD2 hu2 hmk hb hcs hom
  have hLG : some G ≠ (Value.slice A L.length c).ownBlock := fun e => by have := own_lt hown G e.symm; omega
  have hGle : w.heap.size ≤ G := by rw [← hG]; exact hb0.size
  have hown2 := own_alloc hown (.cells (madeCells #[i64 0] L.length) 77)
  clear hrd2 hD3 hu3 hown hG hb0
  go_loopw [17] (fun iv wr => ∃ (k : Nat) (xs : List Int), k ≤ L.length ∧ iv = .int .i64 k ∧ wr.ownsRow w.heap.size 77 1 (.slice (some ⟨G, 0, none⟩) L.length L.length) L.length (encs i64 xs) ∧ wr.ownsRow w.heap.size 9 1 (.slice A L.length c) L.length (encs Value.string L) ∧ Below w.heap.size w wr ∧ Hid (Filled L k xs)) (fun iv _ => L.length - (intOf iv).toNat)
  case atStart => exact ⟨0, _, Nat.zero_le _, rfl, hox0, hown2, hb3, Filled.zero L⟩
  case round =>
    obtain ⟨k, xs, hk, rfl, hox, hol, hbr, HF⟩ := hrel
    have hDr := h.below hbr
    by_cases hlt : k < L.length
    · have p1 : decide ((k : Int) < (L.length : Int)) = true := by simp; omega
      obtain ⟨ad, rfl, h1⟩ := (own_reads_of' (d := ByteArray.empty) hol).at_ (k : Int) (by omega) (by omega)
      rw [Int.toNat_natCast, Cl.rd_at L k hlt] at h1
      have hts : L[k].size ≤ 2147483647 := Nat.le_trans (HCS.out _ (List.getElem_mem hlt)) hs
      have htt : L[k]? = some L[k] := List.getElem?_eq_getElem hlt
      obtain ⟨t, ht⟩ : ∃ t, L[k] = t := ⟨_, rfl⟩
      rw [ht] at h1 hts htt
      have HT := Lib.hid htt
      clear ht htt
      go_wp2_with fail
      refine (Parse_any t wr bm a hts (um_below hu hbr)).mono ?_
      rintro e w3 ⟨hb4, x, E, rfl, hx1, hx2, hE⟩
      have hox4 := own_below hox hb4
      have hat := own_at_of (d := 0) hox4 (k : Int) (by omega) (by omega)
      have hst := own_store_of hox4 (k : Int) x
      rw [Int.toNat_natCast] at hat hst
      have hc1 := hat.1
      have hc2 := hat.2
      have hol4 := own_setCell (own_below hol hb4) (p := ⟨G, k, none⟩) hLG (i64 x)
      have hb34 : Below w.heap.size w w3 := hbr.trans (hb4.mono hbr.size)
      have hb5 : Below w.heap.size w (w3.setCell ⟨G, k, none⟩ (i64 x)) := hb34.grown hst.2 hb34.size (by intro g hg; injection hg with hg; omega)
      have hD5 := h.below hb5
      have hF5 := Fr.of_below (D := D) (v := v) hb5
      clear hat hb34 hox4 hDr hol
      rcases hE with ⟨rfl, hv⟩ | ⟨p, rfl, hv⟩
      · have HF2 := Lib.hid (HF.out.step HT.out hv)
        clear hv HF
        go_wp2
        exact ⟨⟨k + 1, xs.set k x, by omega, by simp, hst.1, hol4, hb5, HF2⟩, by simp [intOf]; omega⟩
      · have HB := Lib.hid (HF.out.bad HT.out hv [])
        clear hv HF
        go_wp2
        go_ret
        exact ⟨_, true, [], v, it, ch, rfl, .inr ⟨p, rfl, rfl⟩, by rw [← HL.out]; exact HB.out, .inl ⟨rfl, rfl, rfl⟩, hD5, hF5⟩
    · obtain rfl : k = L.length := by omega
      have p1 : decide ((L.length : Int) < (L.length : Int)) = false := by simp
      have HO := Lib.hid HF.out.out
      have c0 := hDr.p
      have d0 := hDr.d0
      have d1 := hDr.d1
      have f0 := blk_frozen hDr.cellP 0
      have f1 := blk_frozen hDr.cellD 1
      clear HF
      cases ch
      · go_wp2
        go_ret
        have hxl : xs.length = L.length := by have := hox.1; simpa [encs] using this
        refine ⟨_, false, xs, _, xs, true, rfl, .inl ⟨rfl, rfl⟩, by rw [← HL.out]; exact HO.out, .inr ⟨rfl, rfl, rfl⟩, (hDr.put1 (own_weaken (by rw [hxl]; exact hox) (by omega))).put2, ((Fr.of_below hbr).setCell _ _ (.inl rfl)).setCell _ _ (.inr rfl)⟩
      · have hxl : xs.length = L.length := by have := hox.1; simpa [encs] using this
        have hxr := own_reads_of' (d := 0) hox
        obtain ⟨A3, c3, rfl⟩ := own_slice hDr.own
        go_wp2_with fail
        have hbs : base ≤ wr.heap.size := by have := hbr.size; omega
        have hfit : (it.length + L.length) * 8 ≤ 140737488355328 := by omega
        have post : ∀ (v1 : Value) (w1 : World), w1.ownsRow base 77 1 v1 (it ++ xs).length (encs i64 (it ++ xs)) → wr.drew.grownBy w1 (Value.slice A3 it.length c3).ownBlock → ∃ A4 c4, v1 = .slice A4 (it ++ xs).length c4 ∧
            w1.cell? ⟨D, 0, none⟩ = some (.slice A3 it.length c3) ∧ w1.cell? ⟨D + 2, 0, none⟩ = some (.pointer (some ⟨D, 0, none⟩)) ∧ w1.frozen? ⟨D, 0, none⟩ = false ∧ w1.cell? ⟨D + 2, 1, none⟩ = some (.bool true) ∧ w1.frozen? ⟨D + 2, 1, none⟩ = false ∧
            Dsv (w1.setCell ⟨D, 0, none⟩ v1) base D v1 (it ++ xs) true ∧ Fr w w1 D (.slice A3 it.length c3) := fun v1 w1 ho1 hg1 => by
          have hDd : Dsv wr.drew base D (.slice A3 it.length c3) it true := ⟨hDr.cellP, hDr.cellC, hDr.cellD, hDr.own⟩
          have g1 := blk_grown hDd.cellP hg1 (own_ne hDd.own hDd.cellP (by decide))
          have g3 := blk_grown hDd.cellD hg1 (own_ne hDd.own hDd.cellD (by decide))
          obtain ⟨A4, c4, rfl⟩ := own_slice ho1
          exact ⟨A4, c4, rfl, by rw [blk_cell g1]; rfl, by rw [blk_cell g3]; rfl, blk_frozen g1 0, by rw [blk_cell g3]; rfl, blk_frozen g3 1, hDd.app hg1 ho1, (Fr.of_below (below_drew1 hbr)).grown hg1⟩
        go_region_law ((with_reducible refine step_append_row_of i64 0 base ?hw (.tmp 54) (.tmp 55) 84 77 (.int .i64 0) 8 ?ho Tryd.underlying84 info77 ?hz ?h2 ?h1 (.slice A3 it.length c3) it xs (some ⟨G, 0, none⟩) L.length L.length ?hs ?hx ?HO ?HR ?hb ?hl ?_); (case hw => rfl); (case ho => rfl); (case hz => rfl); (case h2 => omega); (case h1 => exact fun _ => rfl); (case hs => rfl); (case hx => rfl); (case HO => exact hDr.own); (case HR => exact hxr); (case hb => exact hbs); (case hl => exact hfit); intro v1 w1 ho1 hg1 hat1; obtain ⟨A4, c4, rfl, k0, k1, k2, k3, k4, k5, k6⟩ := post v1 w1 ho1 hg1)
        all_goals
          go_wp2
          go_ret
          rw [show (it ++ xs).length = it.length + L.length by rw [List.length_append, hxl]] at k5
          exact ⟨_, false, xs, _, it ++ xs, true, rfl, .inl ⟨rfl, rfl⟩, by rw [← HL.out]; exact HO.out, .inr ⟨rfl, rfl, rfl⟩, k5.put2, (k6.setCell _ _ (.inl rfl)).setCell _ _ (.inr rfl)⟩

set_option maxRecDepth 100000 in
set_option maxHeartbeats 400000 in
theorem dappend_any (base D : Nat) (v : Value) (it : List Int) (ch : Bool) (s : ByteArray) (w : World) (bm : Nat) (a : Addr) (h : Dsv w base D v it ch) (hD : D + 3 ≤ w.heap.size) (hbase : base ≤ D) (hs : s.size ≤ 2147483647) (hit : it.length ≤ 4294967296) (hu : UM w bm a) :
    Calls Tryd.prog 26 #[.pointer (some ⟨D + 2, 0, none⟩), .string s] w (TurnEnd [bl s] false false base D v it ch w) := by
  obtain ⟨A3, c3, rfl⟩ := own_slice h.own
  go_enter Tryd.func26, Tryd.ntmps26
  go_wp2_with fail
  refine (from_any _ s w bm a hs hu).mono ?_
  rintro e w2 ⟨hb, x, E, rfl, hx1, hx2, hE⟩
  have hD2 := h.below hb
  have hF2 := Fr.of_below (D := D) (v := .slice A3 it.length c3) hb
  rcases hE with ⟨rfl, hv⟩ | ⟨p, rfl, hv⟩
  · have HO : Hid (ImplOut [bl s] [x] false) := .inl ⟨rfl, rfl, fun i t u ht hu' => by
      cases i with
      | zero => simp at ht hu'; subst ht; subst hu'; exact hv
      | succ i => simp at ht⟩
    have c0 := hD2.p
    have d0 := hD2.d0
    have f0 := blk_frozen hD2.cellP 0
    have q0 := pw_cell_below (below_alloc (Below.refl w2.heap.size w2) (.cells #[i64 x] 77)) c0
    have q1 := pw_cell_below (below_alloc (Below.refl w2.heap.size w2) (.cells #[i64 x] 77)) d0
    have hbs : base ≤ w2.heap.size := by have := hb.size; omega
    have hfit : (it.length + 1) * 8 ≤ 140737488355328 := by omega
    have hxr : ReadsOf i64 0 (w2.alloc (.cells #[i64 x] 77)).drew (some ⟨w2.heap.size, 0, none⟩) 1 [x] := own_reads_of' (own_lit_of (enc := i64) w2 0 77 [x] (Nat.zero_le _) (by simp))
    have post : ∀ (v1 : Value) (w1 : World), w1.ownsRow base 77 1 v1 (it ++ [x]).length (encs i64 (it ++ [x])) → (w2.alloc (.cells #[i64 x] 77)).drew.grownBy w1 (Value.slice A3 it.length c3).ownBlock → ∃ A4 c4, v1 = .slice A4 (it.length + 1) c4 ∧
        w1.cell? ⟨D, 0, none⟩ = some (.slice A3 it.length c3) ∧ w1.cell? ⟨D + 2, 0, none⟩ = some (.pointer (some ⟨D, 0, none⟩)) ∧ w1.frozen? ⟨D, 0, none⟩ = false ∧
        Dsv (w1.setCell ⟨D, 0, none⟩ v1) base D v1 (it ++ [x]) ch ∧ Fr w w1 D (.slice A3 it.length c3) := fun v1 w1 ho1 hg1 => by
      have hba := below_drew1 (below_alloc (Below.refl w2.heap.size w2) (.cells #[i64 x] 77))
      have hDd := hD2.below hba
      have g1 := blk_grown hDd.cellP hg1 (own_ne hDd.own hDd.cellP (by decide))
      have g3 := blk_grown hDd.cellD hg1 (own_ne hDd.own hDd.cellD (by decide))
      obtain ⟨A4, c4, rfl⟩ := own_slice ho1
      exact ⟨A4, c4, by simp, by rw [blk_cell g1]; rfl, by rw [blk_cell g3]; rfl, blk_frozen g1 0, hDd.app hg1 ho1, (Fr.of_below (hb.trans (hba.mono hb.size))).grown hg1⟩
    clear hv
    go_wp2_with fail
    go_region_law ((with_reducible refine step_append_row_of i64 0 base ?hw (.tmp 25) (.tmp 27) 84 77 (.int .i64 0) 8 ?ho Tryd.underlying84 info77 ?hz ?h2 ?h1 (.slice A3 it.length c3) it [x] (some ⟨w2.heap.size, 0, none⟩) 1 1 ?hs ?hx ?HO ?HR ?hb ?hl ?_); (case hw => rfl); (case ho => rfl); (case hz => rfl); (case h2 => omega); (case h1 => exact fun _ => rfl); (case hs => rfl); (case hx => rfl); (case HO => exact own_alloc hD2.own _); (case HR => exact hxr); (case hb => exact Nat.le_trans hbs (by simp [World.drew])); (case hl => exact hfit); intro v1 w1 ho1 hg1 hat1; obtain ⟨A4, c4, rfl, k0, k1, k2, k5, k6⟩ := post v1 w1 ho1 hg1)
    all_goals
      go_wp2
      go_ret
      exact ⟨_, false, [x], _, it ++ [x], ch, rfl, .inl ⟨rfl, rfl⟩, HO.out, .inr ⟨rfl, rfl, by simp⟩, k5, k6.setCell _ _ (.inl rfl)⟩
  · have HB : Hid (ImplOut [bl s] [] true) := .inr ⟨rfl, 0, bl s, rfl, hv, fun j u hj => by omega⟩
    clear hv
    go_wp2
    go_ret
    exact ⟨_, true, [], _, it, ch, rfl, .inr ⟨p, rfl, rfl⟩, HB.out, .inl ⟨rfl, rfl, rfl⟩, hD2, hF2⟩

set_option maxRecDepth 100000 in
set_option maxHeartbeats 400000 in
theorem dreplace_any (base D : Nat) (v : Value) (it : List Int) (ch : Bool) (A : Option Addr) (c : Nat) (L : List ByteArray) (w : World) (bm : Nat) (a : Addr) (h : Dsv w base D v it ch) (hD : D + 3 ≤ w.heap.size) (hbase : base ≤ D)
    (hr : ReadsOf Value.string ByteArray.empty w A L.length L) (hn : L.length ≤ 4294967296) (hcs : ∀ x ∈ L, x.size ≤ 2147483647) (hu : UM w bm a) :
    Calls Tryd.prog 27 #[.pointer (some ⟨D + 2, 0, none⟩), .slice A L.length c] w (TurnEnd (L.map bl) true false base D v it ch w) := by
  have hmk := print_make_of (P := Tryd.prog) 84 77 (.int .i64 0) 8 Tryd.underlying84 info77 rfl (by omega) L.length (by omega)
  have HCS := Lib.hid hcs
  have HR := Lib.hid hr
  obtain ⟨G, hG⟩ : ∃ G, w.heap.size = G := ⟨_, rfl⟩
  have hb3 : Below w.heap.size w (w.alloc (.cells (madeCells #[i64 0] L.length) 77)) := (Below.refl _ _).alloc (Nat.le_refl _) _
  have hom := own_made_of (enc := i64) (d := 0) w w.heap.size 77 L.length (Nat.le_refl _) (by omega)
  rw [hG] at hom
  clear hcs hr
  go_enter Tryd.func27, Tryd.ntmps27
  go_wp2_with fail
  clear hmk
  go_loopw [14] (fun iv wr => ∃ (k : Nat) (xs : List Int), k ≤ L.length ∧ iv = .int .i64 k ∧ wr.ownsRow G 77 1 (.slice (some ⟨G, 0, none⟩) L.length L.length) L.length (encs i64 xs) ∧ Below w.heap.size w wr ∧ Hid (Filled L k xs)) (fun iv _ => L.length - (intOf iv).toNat)
  case atStart => exact ⟨0, _, Nat.zero_le _, rfl, hom, hb3, Filled.zero L⟩
  case round =>
    obtain ⟨k, xs, hk, rfl, hox, hbr, HF⟩ := hrel
    have hDr := h.below hbr
    by_cases hlt : k < L.length
    · have p1 : decide ((k : Int) < (L.length : Int)) = true := by simp; omega
      obtain ⟨ad, rfl, h1⟩ := (HR.out.below hbr).at_ (k : Int) (by omega) (by omega)
      rw [Int.toNat_natCast, Cl.rd_at L k hlt] at h1
      have hts : L[k].size ≤ 2147483647 := HCS.out _ (List.getElem_mem hlt)
      have htt : L[k]? = some L[k] := List.getElem?_eq_getElem hlt
      obtain ⟨t, ht⟩ : ∃ t, L[k] = t := ⟨_, rfl⟩
      rw [ht] at h1 hts htt
      have HT := Lib.hid htt
      clear ht htt
      go_wp2_with fail
      refine (from_any _ t wr bm a hts (um_below hu hbr)).mono ?_
      rintro e w3 ⟨hb4, x, E, rfl, hx1, hx2, hE⟩
      have hox4 := own_below hox hb4
      have hat := own_at_of (d := 0) hox4 (k : Int) (by omega) (by omega)
      have hst := own_store_of hox4 (k : Int) x
      rw [Int.toNat_natCast] at hat hst
      have hc1 := hat.1
      have hc2 := hat.2
      have hb34 : Below w.heap.size w w3 := hbr.trans (hb4.mono hbr.size)
      have hb5 : Below w.heap.size w (w3.setCell ⟨G, k, none⟩ (i64 x)) := hb34.grown hst.2 hb34.size (by intro g hg; injection hg with hg; omega)
      have hD5 := h.below hb5
      have hF5 := Fr.of_below (D := D) (v := v) hb5
      clear hat hb34 hox4 hDr
      rcases hE with ⟨rfl, hv⟩ | ⟨p, rfl, hv⟩
      · have HF2 := Lib.hid (HF.out.step HT.out hv)
        clear hv HF
        go_wp2
        exact ⟨⟨k + 1, xs.set k x, by omega, by simp, hst.1, hb5, HF2⟩, by simp [intOf]; omega⟩
      · have HB := Lib.hid (HF.out.bad HT.out hv [])
        clear hv HF
        go_wp2
        go_ret
        exact ⟨_, true, [], v, it, ch, rfl, .inr ⟨p, rfl, rfl⟩, HB.out, .inl ⟨rfl, rfl, rfl⟩, hD5, hF5⟩
    · obtain rfl : k = L.length := by omega
      have p1 : decide ((L.length : Int) < (L.length : Int)) = false := by simp
      have HO := Lib.hid HF.out.out
      have c0 := hDr.p
      have d0 := hDr.d0
      have f0 := blk_frozen hDr.cellP 0
      have hxl : xs.length = L.length := by have := hox.1; simpa [encs] using this
      clear HF
      go_wp2
      go_ret
      exact ⟨_, false, xs, _, xs, ch, rfl, .inl ⟨rfl, rfl⟩, HO.out, .inr ⟨rfl, rfl, by simp⟩, hDr.put1 (own_weaken (by rw [hxl]; exact hox) (by omega)), (Fr.of_below hbr).setCell _ _ (.inl rfl)⟩
end Go.Proofs.YtjkmidohcidkiaaDoor.Li
