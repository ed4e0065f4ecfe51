/- A slice of pairs, read; spec.CastLast: the last value of a key; spec.CastKeys: how many keys pairs have. -/
import Derived.Test.YtcfknhboicomjaaGreatDoorPairs
namespace Go.Proofs.YtcfknhboicomjaaGreatDoor.Ca
open Go.RowKit Fl Lw Go.Proofs.YtcfknhboicomjaaGreatDoorW.PrintWords

/-- The value of a pair. -/
def entAny (e : Ent) : Value := anyV e.k e.i e.u e.f e.s
/-- A slice of plain pairs. -/
def EntsAt (w : World) (A : Option Addr) (L : List Ent) : Prop := ∀ (j : Nat) (e : Ent), L[j]? = some e → ∃ g, A = some ⟨g, 0, none⟩ ∧ w.cell? ⟨g, j * 8, none⟩ = some (.string e.key) ∧ w.cell? ⟨g, j * 8 + 1, none⟩ = some (.int .i64 e.k) ∧ w.cell? ⟨g, j * 8 + 2, none⟩ = some (.int .i64 e.i) ∧
  w.cell? ⟨g, j * 8 + 3, none⟩ = some (.int .u64 e.u) ∧ w.cell? ⟨g, j * 8 + 4, none⟩ = some (.float .f64 e.f) ∧ w.cell? ⟨g, j * 8 + 5, none⟩ = some (.string e.s) ∧ w.cell? ⟨g, j * 8 + 6, none⟩ = some (.slice none 0 0) ∧ w.cell? ⟨g, j * 8 + 7, none⟩ = some (.slice none 0 0)
theorem EntsAt.below {w w' : World} {A : Option Addr} {L : List Ent} (h : EntsAt w A L) (hb : Below w.heap.size w w') : EntsAt w' A L := by
  intro j e hj
  obtain ⟨g, e0, h0, h1, h2, h3, h4, h5, h6, h7⟩ := h j e hj
  exact ⟨g, e0, pw_cell_below hb h0, pw_cell_below hb h1, pw_cell_below hb h2, pw_cell_below hb h3, pw_cell_below hb h4, pw_cell_below hb h5, pw_cell_below hb h6, pw_cell_below hb h7⟩
theorem EntsAt.take {w : World} {A : Option Addr} {L : List Ent} (h : EntsAt w A L) (n : Nat) : EntsAt w A (L.take n) := fun j e hj => by
  rw [List.getElem?_take] at hj
  split at hj
  · exact h j e hj
  · cases hj
theorem cellsOf_at : ∀ (L : List Ent) (j : Nat) (e : Ent), L[j]? = some e → ∀ i, i < 8 → (cellsOf L)[j * 8 + i]? = (entCells e)[i]?
  | [], j, e, h, i, hi => by simp at h
  | a :: L, 0, e, h, i, hi => by
    simp at h
    subst h
    rw [cellsOf, List.flatMap_cons, List.getElem?_append_left (by simp [entCells]; omega)]
    simp
  | a :: L, j + 1, e, h, i, hi => by
    have := cellsOf_at L j e (by simpa using h) i hi
    rw [cellsOf, List.flatMap_cons, List.getElem?_append_right (by simp [entCells]; omega), ← this]
    congr 1
    simp [entCells]; omega
theorem ents_of_own {w : World} {base : Nat} {v : Value} {L : List Ent} (h : w.ownsRow base 30 8 v L.length (cellsOf L)) :
    ∃ A cap, v = .slice A L.length cap ∧ L.length ≤ cap ∧ EntsAt w A L := by
  have hc := fun (g : Nat) => h.cells (g := g)
  rcases h.2 with ⟨rfl, h0⟩ | ⟨g, cap, cur, rfl, _, hg, hcap, _⟩
  · refine ⟨none, 0, by rw [h0], by omega, fun j e hj => ?_⟩
    rw [List.eq_nil_of_length_eq_zero h0] at hj
    cases hj
  · refine ⟨_, cap, rfl, hcap, fun j e hj => ⟨g, rfl, ?_⟩⟩
    have hx : ∀ i v, i < 8 → (entCells e)[i]? = some v → w.cell? ⟨g, j * 8 + i, none⟩ = some v := fun i v hi hv => by
      have := hc g rfl _ _ ((cellsOf_at L j e hj i hi).trans hv)
      rwa [add_plain] at this
    exact ⟨hx 0 _ (by omega) rfl, hx 1 _ (by omega) rfl, hx 2 _ (by omega) rfl, hx 3 _ (by omega) rfl, hx 4 _ (by omega) rfl, hx 5 _ (by omega) rfl, hx 6 _ (by omega) rfl, hx 7 _ (by omega) rfl⟩

theorem res_cell_tmp {P : Program} {fn : Func} {p q : Tmp} {ty : TypeId} (h : fn.results = #[.cell p ty, .tmp q]) (tmps : Array Value) (w : World) {g : Nat} (t : TypeId) (cs : Array Value) (fr : Nat × Nat) (d : TypeDesc)
    (hp : tmps.getD p undef = .pointer (some ⟨g, 0, none⟩)) (hg : w.heap[g]? = some (.cells cs t fr))
    (hu : P.underlying ty = some d) (hd : (match d with | .struct _ | .array _ _ => true | _ => false) = true) (hi : (P.info? ty).map (·.size) = some cs.size) :
    (results fn tmps).run P w = .ok (.tuple #[.agg cs, tmps.getD q undef]) w := by
  have hp' : tmps[p]?.getD undef = .pointer (some ⟨g, 0, none⟩) := by simpa using hp
  simp [results, h, hp', asAddr, run_loadVar_row w g t ty cs fr d hg hu hd hi]
end Go.Proofs.YtcfknhboicomjaaGreatDoor.Ca

namespace Go.Proofs.YtcfknhboicomjaaGreatDoor.Ca
open Go.RowKit Fl Lw Go.Proofs.YtcfknhboicomjaaGreatDoorW.PrintWords

def lastV (key : ByteArray) (L : List Ent) : Value := match lastOf key L with | some e => entAny e | none => anyV 0 0 0 0 ⟨#[]⟩
theorem lastV_some {key : ByteArray} {L : List Ent} {e : Ent} (h : lastOf key L = some e) : lastV key L = entAny e := by rw [lastV, h]
theorem lastV_none {key : ByteArray} {L : List Ent} (h : lastOf key L = none) : lastV key L = anyV 0 0 0 0 ⟨#[]⟩ := by rw [lastV, h]

theorem toList_inj {a b : ByteArray} (h : a.toList = b.toList) : a = b := by
  have : a.data.toList = b.data.toList := by rw [← ByteArray.toList_eq, ← ByteArray.toList_eq]; exact h
  cases a; cases b; simp at this; simp [this]
set_option maxRecDepth 100000 in
set_option maxHeartbeats 1000000 in
theorem last_any (A : Option Addr) (cap : Nat) (L : List Ent) (key : ByteArray) (w : World) (hcap : L.length ≤ cap) (hn : L.length ≤ 60) (hE : EntsAt w A L) :
    Calls Tryz.prog 10 #[.slice A L.length cap, .string key] w fun e w' => e = .returned (.tuple #[lastV key L, .bool (lastOf key L).isSome]) ∧ Below w.heap.size w w' := by
  have HE := Lib.hid hE
  clear hE
  go_enter Tryz.func10, Tryz.ntmps10
  go_wp2_with fail
  obtain ⟨w1, hw1⟩ : ∃ w1, w.alloc (.cells #[.int .i64 0, .int .i64 0, .int .u64 0, .float .f64 0, .string { data := #[] }, .slice none 0 0, .slice none 0 0] 28) = w1 := ⟨_, rfl⟩
  have hb1 : Below w.heap.size w w1 := hw1 ▸ al_b _ _
  have r1 : w1.heap[w.heap.size]? = some (.cells #[.int .i64 0, .int .i64 0, .int .u64 0, .float .f64 0, .string { data := #[] }, .slice none 0 0, .slice none 0 0] 28 (0, 0)) := hw1 ▸ heap_alloc_new w _
  rw [hw1]
  clear hw1
  go_loopw [6] (fun iv wr => ((∃ i : Nat, i < L.length ∧ iv = .int .i64 i ∧ Hid (lastOf key L = lastOf key (L.take (i + 1)))) ∨ (iv = .int .i64 (-1) ∧ Hid (lastOf key L = none))) ∧
    wr.heap[w.heap.size]? = some (.cells #[.int .i64 0, .int .i64 0, .int .u64 0, .float .f64 0, .string { data := #[] }, .slice none 0 0, .slice none 0 0] 28 (0, 0)) ∧ Below w.heap.size w wr) (fun iv _ => (intOf iv + 1).toNat)
  case atStart =>
    refine ⟨?_, r1, hb1⟩
    rcases Nat.eq_zero_or_pos L.length with h0 | h0
    · exact .inr ⟨by rw [h0]; rfl, by rw [List.eq_nil_of_length_eq_zero h0]; exact (rfl : lastOf key [] = none)⟩
    · exact .inl ⟨L.length - 1, by omega, by congr 1; omega, by rw [show L.length - 1 + 1 = L.length by omega, List.take_length]; exact (rfl : lastOf key L = lastOf key L)⟩
  case round =>
    clear r1 hb1
    obtain ⟨hor, r1, hb1⟩ := hrel
    rcases hor with ⟨i, hi, rfl, HI⟩ | ⟨rfl, HI⟩
    · have p1 : (0 : Int) ≤ (i : Int) := by omega
      have p2 : (i : Int) < (L.length : Int) := by omega
      obtain ⟨e, he⟩ : ∃ e, L[i] = e := ⟨_, rfl⟩
      obtain ⟨g, rfl, h0, h1, h2, h3, h4, h5, h6, h7⟩ := (HE.out.below hb1) i e (by rw [List.getElem?_eq_getElem hi, he])
      have HL : Hid (lastOf key L = if e.key = key then some e else lastOf key (L.take i)) := by
        have := HI.out
        rw [take_snoc L i hi, he, lastOf_snoc] at this
        exact this
      clear HI he
      by_cases hk : e.key = key
      · have hkk : (e.key.toList == key.toList) = true := by rw [hk]; exact beq_self_eq_true _
        have HL2 := Lib.hid (HL.out.trans (if_pos hk))
        clear HL hk HE
        go_wp2_with (refine wpList_store_row rfl 28 _ _ rfl w.heap.size _ rfl rfl 28 _ r1 Wd.info28 rfl (by simp [Value.oneCell']) ?_)
        refine bodyPost_ret (res_cell_tmp (g := w.heap.size) rfl _ _ 28 _ (0, 0) _ rfl (setRow_heap _ w.heap.size _ _ 28 _ r1) Tryz.underlying28 rfl Wd.info28) rfl ?_
        exact ⟨by rw [lastV_some HL2.out, HL2.out]; rfl, Wd.below_setRow hb1 _⟩
      · have hkk : (e.key.toList == key.toList) = false := by
          rw [beq_eq_false_iff_ne]
          exact fun h => hk (toList_inj h)
        have HL2 := Lib.hid (HL.out.trans (if_neg hk))
        clear HL hk HE
        rcases i with _ | i
        · go_wp2
          exact ⟨⟨.inr ⟨rfl, HL2.out⟩, r1, hb1⟩, by simp [intOf]⟩
        · have q1 : ((i + 1 : Nat) : Int) - 1 = (i : Int) := by omega
          go_wp2
          exact ⟨⟨.inl ⟨i, by omega, by congr 1, HL2.out⟩, r1, hb1⟩, by simp [intOf]; omega⟩
    · clear HE
      go_wp2_with (refine wpList_store_row rfl 28 _ _ rfl w.heap.size _ rfl rfl 28 _ r1 Wd.info28 rfl (by simp [Value.oneCell']) ?_)
      refine bodyPost_ret (res_cell_tmp (g := w.heap.size) rfl _ _ 28 _ (0, 0) _ rfl (setRow_heap _ w.heap.size _ _ 28 _ r1) Tryz.underlying28 rfl Wd.info28) rfl ?_
      exact ⟨by rw [lastV_none HI.out, HI.out]; rfl, Wd.below_setRow hb1 _⟩
end Go.Proofs.YtcfknhboicomjaaGreatDoor.Ca

namespace Go.Proofs.YtcfknhboicomjaaGreatDoor.Ca
open Go.RowKit Fl Lw Go.Proofs.YtcfknhboicomjaaGreatDoorW.PrintWords

/-- As last_any, the struct laid open. -/
theorem last_open (A : Option Addr) (cap : Nat) (L : List Ent) (key : ByteArray) (hcap : L.length ≤ cap) (hn : L.length ≤ 60) :
    ∃ x : Ent, lastV key L = entAny x ∧ (∀ e, lastOf key L = some e → x = e) ∧ ∀ w, EntsAt w A L → Calls Tryz.prog 10 #[.slice A L.length cap, .string key] w fun e w' =>
      e = .returned (.tuple #[.agg #[.int .i64 x.k, .int .i64 x.i, .int .u64 x.u, .float .f64 x.f, .string x.s, .slice none 0 0, .slice none 0 0], .bool (lastOf key L).isSome]) ∧ Below w.heap.size w w' := by
  cases hl : lastOf key L with
  | none => exact ⟨⟨⟨#[]⟩, 0, 0, 0, 0, ⟨#[]⟩⟩, lastV_none hl, fun e h => (by cases h), fun w hE => by have := last_any A cap L key w hcap hn hE; rw [lastV_none hl, hl] at this; exact this⟩
  | some e => exact ⟨e, lastV_some hl, fun e' h => (by cases h; rfl), fun w hE => by have := last_any A cap L key w hcap hn hE; rw [lastV_some hl, hl] at this; exact this⟩

theorem leaf {B : Nat} {w wf : World} {K : World → Prop} (hb : Below B w wf) (h : ∀ wf, Below B w wf → K wf) : K wf := h wf hb
/-- A new struct, behind a call. -/
theorem new7 {W w4 : World} {cs : Array Value} (hb : Below (W.alloc (.cells cs 28)).drew.heap.size (W.alloc (.cells cs 28)).drew w4) : w4.heap[W.heap.size]? = some (.cells cs 28 (0, 0)) :=
  (hb.block _ (by simp [World.drew])).trans (heap_alloc_new W _)

set_option maxRecDepth 100000 in
set_option maxHeartbeats 1000000 in
theorem keys_any (A : Option Addr) (cap : Nat) (L : List Ent) (w : World) (hcap : L.length ≤ cap) (hn : L.length ≤ 60) (hE : EntsAt w A L) :
    Calls Tryz.prog 9 #[.slice A L.length cap] w fun e w' => e = .returned (.int .i64 (cnt L)) ∧ Below w.heap.size w w' := by
  have HE := Lib.hid hE
  clear hE
  go_enter Tryz.func9, Tryz.ntmps9
  go_wp2_with fail
  go_loopw [3, 9] (fun nv iv wr => ∃ i : Nat, i ≤ L.length ∧ iv = .int .i64 i ∧ nv = .int .i64 (cnt (L.take i)) ∧ Below w.heap.size w wr) (fun _ iv _ => L.length - (intOf iv).toNat)
  case atStart => exact ⟨0, Nat.zero_le _, rfl, rfl, Below.refl _ _⟩
  case round =>
    obtain ⟨i, hi, rfl, rfl, hb⟩ := hrel
    by_cases hlt : i < L.length
    · have p1 : (0 : Int) ≤ (i : Int) := by omega
      have p2 : (i : Int) < (L.length : Int) := by omega
      have p3 : (i : Int) ≤ (cap : Int) := by omega
      obtain ⟨e, he⟩ : ∃ e, L[i] = e := ⟨_, rfl⟩
      have hEr := HE.out.below hb
      obtain ⟨g, rfl, h0, _⟩ := hEr i e (by rw [List.getElem?_eq_getElem hlt, he])
      have hlen : (L.take i).length = i := by rw [List.length_take]; omega
      obtain ⟨x, _, _, hlast⟩ := last_open (some ⟨g, 0, none⟩) cap (L.take i) e.key (by omega) (by omega)
      rw [hlen] at hlast
      have hcn := cnt_snoc (L.take i) e
      have hc60 : cnt (L.take i) ≤ 60 := Nat.le_trans (cnt_le _) (by omega)
      rw [← he, ← take_snoc L i hlt, he] at hcn
      obtain ⟨b, hbb⟩ : ∃ b, (lastOf e.key (L.take i)).isSome = b := ⟨_, rfl⟩
      obtain ⟨c, hc⟩ : ∃ c, cnt (L.take i) = c := ⟨_, rfl⟩
      rw [hbb] at hlast hcn
      rw [hc] at hcn hc60 ⊢
      have HCN := Lib.hid hcn
      clear hcn hbb hc
      have hEd : EntsAt wr.drew (some ⟨g, 0, none⟩) (L.take i) := (hEr.take i).below (Below.refl _ _).drew
      have hEa : ∀ o, EntsAt (wr.alloc o).drew (some ⟨g, 0, none⟩) (L.take i) := fun o => (hEr.take i).below (al_b _ _).drew
      have HD := Lib.hid hEd
      have HA := Lib.hid hEa
      have HLA := Lib.hid hlast
      clear hEd hEa hEr hlast
      have sf := Wd.store_float
      have ha0 : ∀ o, (wr.alloc o).cell? ⟨g, i * 8, none⟩ = some (.string e.key) := fun o => pw_cell_below (al_b _ _) h0
      go_wp2_with fail
      go_region_law (first
        | (go_simp; go_at_call 10; refine (HLA.out _ HD.out).mono ?_; rintro e w4 ⟨rfl, hb4⟩; have hbz := hb.drew.trans (hb4.mono hb.size))
        | (go_simp; go_at_call 10; refine (HLA.out _ (HA.out _)).mono ?_; rintro e w4 ⟨rfl, hb4⟩; have hbz := (hb.alloc hb.size _).drew.trans (hb4.mono (hb.alloc hb.size _).size); have hr4 : w4.heap[wr.heap.size]? = _ := new7 hb4
           have q0 := Wd.cellrow hr4 0 (.int .i64 0) rfl; have q1 := Wd.cellrow hr4 1 (.int .i64 0) rfl; have q2 := Wd.cellrow hr4 2 (.int .u64 0) rfl; have q3 := Wd.cellrow hr4 3 (.float .f64 0) rfl
           have q4 := Wd.cellrow hr4 4 (.string ⟨#[]⟩) rfl; have q5 := Wd.cellrow hr4 5 (.slice none 0 0) rfl; have q6 := Wd.cellrow hr4 6 (.slice none 0 0) rfl
           have z0 := frozen_of_row w4 _ 0 _ 28 hr4; have z1 := frozen_of_row w4 _ 1 _ 28 hr4; have z2 := frozen_of_row w4 _ 2 _ 28 hr4; have z3 := frozen_of_row w4 _ 3 _ 28 hr4
           have z4 := frozen_of_row w4 _ 4 _ 28 hr4; have z5 := frozen_of_row w4 _ 5 _ 28 hr4; have z6 := frozen_of_row w4 _ 6 _ 28 hr4; clear hr4))
      all_goals
        (have hsz := hb.size
         with_reducible refine leaf (B := w.heap.size) (w := w) ?below ?_
         case below => repeat' (first | with_reducible assumption | with_reducible refine Below.setCell ?_ ?_ _ | with_reducible refine Below.alloc ?_ ?_ _ | exact hsz | exact hbz.size)
         intro wf hbf
         clear HA HD HLA hbz hb4 sf ha0
         try clear q0 q1 q2 q3 q4 q5 q6 z0 z1 z2 z3 z4 z5 z6
         have hw : IntKind.i64.wrap ((c : Int) + 1) = (c : Int) + 1 := by simp [IntKind.wrap, IntKind.bits, IntKind.signed]; omega
         cases b
         · go_wp2
           exact ⟨⟨i + 1, by omega, by simp, by rw [HCN.out]; simp, hbf⟩, by simp [intOf]; omega⟩
         · go_wp2
           exact ⟨⟨i + 1, by omega, by simp, by rw [HCN.out]; simp, hbf⟩, by simp [intOf]; omega⟩)
    · obtain rfl : i = L.length := by omega
      go_wp2
      go_ret
      rw [List.take_length]
      exact ⟨rfl, hb⟩
end Go.Proofs.YtcfknhboicomjaaGreatDoor.Ca
