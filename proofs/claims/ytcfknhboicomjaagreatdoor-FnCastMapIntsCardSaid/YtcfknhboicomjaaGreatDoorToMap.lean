/- keyed[any]: a map of pairs; toStringMapIntE[int64], [int]: a map of any values to one of ints, key by key, in whatever order; the thin package's doors ToInt64, ToInt, CastInt, ToStringMapInt64, ToStringMapInt. -/
import Derived.Test.YtcfknhboicomjaaGreatDoorEnts
namespace Go.Proofs.YtcfknhboicomjaaGreatDoor.Ca
open Go.RowKit Fl Lw Go.Proofs.YtcfknhboicomjaaGreatDoorW.PrintWords
open Mp (MapAt Turns)

theorem map_new (w : World) : MapAt (w.alloc (.map #[] 0)) w.heap.size [] :=
  ⟨#[], 0, heap_alloc_new w _, ⟨fun x hx => by simp at hx, by simp, by simp, rfl⟩⟩
theorem MapAt_below {w w' : World} {b : Nat} {D : Mp.Pairs} (h : MapAt w b D) (hb : Below w.heap.size w w') : MapAt w' b D := h.kept (hb.block b h.lt)

/-- What impl.value gives of a pair's value. -/
def ValOf (V : Ent → Value) : Prop := ∀ e, Good e → Plain (V e) ∧ ∀ w, Calls Tryz.prog 20 #[entAny e] w fun r w' => r = .returned (V e) ∧ Below w.heap.size w w'
theorem valOf_ex : ∃ V, ValOf V := by
  have : ∀ e : Ent, ∃ v, Good e → Plain v ∧ ∀ w, Calls Tryz.prog 20 #[entAny e] w fun r w' => r = .returned v ∧ Below w.heap.size w w' := by
    intro e
    by_cases h : Good e
    · obtain ⟨v, h1, h2⟩ := value_any e.k e.i e.u e.f e.s h.1 h.2.1 h.2.2.1 h.2.2.2
      exact ⟨v, fun _ => ⟨h1, h2⟩⟩
    · exact ⟨undef, fun h' => absurd h' h⟩
  exact ⟨fun e => Classical.choose (this e), fun e => Classical.choose_spec (this e)⟩

def KeyedEnd (V : Ent → Value) (L : List Ent) (w : World) (e : Ending) (w' : World) : Prop := e = .returned (.map (some w.heap.size)) ∧ MapAt w' w.heap.size (mapOf V L) ∧ Below w.heap.size w w'

set_option maxRecDepth 100000 in
set_option maxHeartbeats 1000000 in
theorem keyed_any (V : Ent → Value) (hV : ValOf V) (A : Option Addr) (cap : Nat) (L : List Ent) (w : World) (hcap : L.length ≤ cap) (hn : L.length ≤ 60) (hG : ∀ x ∈ L, Good x) (hE : EntsAt w A L) :
    Calls Tryz.prog 42 #[.slice A L.length cap, .func (.func 20) #[] #[]] w (KeyedEnd V L w) := by
  have HE := Lib.hid hE
  have HG := Lib.hid hG
  have HV := Lib.hid hV
  clear hE hG hV
  have hmm := @run_makeMap Tryz.prog
  go_enter Tryz.func42, Tryz.ntmps42
  go_wp2_with fail
  obtain ⟨w1, hw1⟩ : ∃ w1, w.alloc (.map #[] 0) = w1 := ⟨_, rfl⟩
  have hb1 : Below w.heap.size w w1 := hw1 ▸ al_b _ _
  have m1 : MapAt w1 w.heap.size [] := hw1 ▸ map_new w
  rw [hw1]
  clear hw1 hmm
  go_loopw [11] (fun iv wr => ∃ i : Nat, i ≤ L.length ∧ iv = .int .i64 i ∧ MapAt wr w.heap.size (mapOf V (L.take i)) ∧ Below w.heap.size w wr) (fun iv _ => L.length - (intOf iv).toNat)
  case atStart => exact ⟨0, Nat.zero_le _, rfl, m1, hb1⟩
  case round =>
    clear m1 hb1
    obtain ⟨i, hi, rfl, hmap, hb⟩ := hrel
    by_cases hlt : i < L.length
    · have p1 : (0 : Int) ≤ (i : Int) := by omega
      have p2 : (i : Int) < (L.length : Int) := by omega
      obtain ⟨e, he⟩ : ∃ e, L[i] = e := ⟨_, rfl⟩
      have he? : L[i]? = some e := by rw [List.getElem?_eq_getElem hlt, he]
      obtain ⟨g, rfl, h0, h1, h2, h3, h4, h5, h6, h7⟩ := (HE.out.below hb) i e he?
      obtain ⟨_, hv⟩ := HV.out e (HG.out e (List.mem_of_getElem? he?))
      have HT := Lib.hid (take_snoc L i hlt)
      rw [he] at HT
      clear he he?
      have sf := Wd.store_float
      go_wp2_with fail
      simp only [entAny, anyV] at hv
      obtain ⟨W, hW⟩ : ∃ W, wr.alloc (.cells #[.string e.key, .int .i64 e.k, .int .i64 e.i, .int .u64 e.u, .float .f64 e.f, .string e.s, .slice none 0 0, .slice none 0 0] 30) = W := ⟨_, rfl⟩
      have hbW : Below w.heap.size w W.drew := hW ▸ (hb.alloc hb.size _).drew
      have r : W.heap[wr.heap.size]? = some (.cells #[.string e.key, .int .i64 e.k, .int .i64 e.i, .int .u64 e.u, .float .f64 e.f, .string e.s, .slice none 0 0, .slice none 0 0] 30 (0, 0)) := hW ▸ heap_alloc_new wr _
      have hmW : MapAt W.drew w.heap.size (mapOf V (L.take i)) := hW ▸ MapAt_below hmap (al_b _ _).drew
      have hBlt : wr.heap.size < W.drew.heap.size := by rw [← hW]; simp [World.drew]
      rw [hW]
      generalize wr.heap.size = B at *
      have e0 := Wd.cellrow r 0 (.string e.key) rfl
      have e1 := Wd.cellrow r 1 (.int .i64 e.k) rfl
      have e2 := Wd.cellrow r 2 (.int .i64 e.i) rfl
      have e3 := Wd.cellrow r 3 (.int .u64 e.u) rfl
      have e4 := Wd.cellrow r 4 (.float .f64 e.f) rfl
      have e5 := Wd.cellrow r 5 (.string e.s) rfl
      have e6 := Wd.cellrow r 6 (.slice none 0 0) rfl
      have e7 := Wd.cellrow r 7 (.slice none 0 0) rfl
      have HVV := Lib.hid hv
      clear h0 h1 h2 h3 h4 h5 h6 h7 hmap hW r sf hv HV HG HE
      go_region_law (first
          | (go_simp; go_at_call 20; refine (HVV.out _).mono ?_; rintro e' w4 ⟨rfl, hb4⟩; have g0 := (hb4.cell (p := ⟨B, 0, none⟩) hBlt).trans e0; obtain ⟨w5, hup, hm5, ht5⟩ := Mp.update (P := Tryz.prog) Tryz.underlying92 Tryz.underlying9 (MapAt_below hmW hb4) e.key (V e); have hb5 := (hbW.trans (hb4.mono hbW.size)).trans (ht5.below (Nat.le_refl _)); clear hb4 ht5))
      all_goals
        (rw [← mapOf_snoc, ← HT.out] at hm5
         clear hup g0 HVV hbW hmW HT
         go_wp2
         exact ⟨⟨i + 1, by omega, by simp, hm5, hb5⟩, by simp [intOf]; omega⟩)
    · obtain rfl : i = L.length := by omega
      go_wp2
      go_ret
      rw [List.take_length] at hmap
      exact ⟨rfl, hmap, hb⟩
end Go.Proofs.YtcfknhboicomjaaGreatDoor.Ca

namespace Go.Proofs.YtcfknhboicomjaaGreatDoor.Ca
open Go.RowKit Fl Lw Go.Proofs.YtcfknhboicomjaaGreatDoorW.PrintWords
open Mp (MapAt Turns RangeAt)

theorem rangeLeft_eq {w : World} {b r : Nat} {D left : Mp.Pairs} (h : RangeAt w b r D left) : w.rangeLeft b r = left.length := by
  obtain ⟨_, es, clock, since, seen, c0, h1, h2, _, _, _, _, h3⟩ := h
  have := congrArg List.length h3
  simp only [List.length_map, Array.length_toList] at this
  simp only [World.rangeLeft, h1, h2, this]
theorem RangeAt_below {w w' : World} {b r : Nat} {D left : Mp.Pairs} (h : RangeAt w b r D left) (hb : Below w.heap.size w w') : RangeAt w' b r D left := h.kept (hb.block b h.lt.1) (hb.block r h.lt.2)

theorem sv_inj {p q : ByteArray × Value} (h : Mp.sv p = Mp.sv q) : p = q := by
  obtain ⟨a, b⟩ := p
  obtain ⟨c, d⟩ := q
  simp only [Mp.sv, Prod.mk.injEq, Value.string.injEq] at h
  rw [h.1, h.2]
theorem range_mem {w : World} {b r : Nat} {D left : Mp.Pairs} (h : RangeAt w b r D left) {p : ByteArray × Value} (hp : p ∈ left) : p ∈ D := by
  obtain ⟨_, es, clock, since, seen, c0, _, _, R, _, _, _, h3⟩ := h
  have h4 : Mp.sv p ∈ (leftOf es seen).toList.map Mp.kv := by rw [h3]; exact List.mem_map.2 ⟨p, hp, rfl⟩
  obtain ⟨e, he, hee⟩ := List.mem_map.1 h4
  have he2 : e ∈ es.toList := by
    unfold leftOf at he
    rw [Array.toList_filter] at he
    exact (List.mem_filter.1 he).1
  have h5 : Mp.sv p ∈ D.map Mp.sv := by rw [← R.eq, ← hee]; exact List.mem_map.2 ⟨e, he2, rfl⟩
  obtain ⟨q, hq, hqp⟩ := List.mem_map.1 h5
  rw [← sv_inj hqp]; exact hq
set_option maxRecDepth 100000 in
set_option maxHeartbeats 1000000 in
theorem toMapL_any (b0 : Nat) (D : Mp.Pairs) (F : Value → Value) (w : World) (hm : MapAt w b0 D) (hE : ErrVars w) (hF : ∀ k v, (k, v) ∈ D → ∃ y, F v = .int .i64 y ∧ CastL v (some y)) :
    Calls Tryz.prog 49 #[.iface 92 (.map (some b0)), .func (.func 50) #[] #[], .func (.func 19) #[] #[]] w fun e w' => ∃ b Dm, e = .returned (.tuple #[.map (some b), .nilIface]) ∧ MapAt w' b Dm ∧ Dm.Perm (mapV F D) ∧ Below w.heap.size w w' := by
  have HF := Lib.hid hF
  clear hF
  have hmm := @run_makeMap Tryz.prog
  have a1 := as92_33 (.map (some b0))
  have a2 := as92_92 (.map (some b0))
  obtain ⟨o, hro, hra⟩ := Mp.range (P := Tryz.prog) Tryz.underlying92 (MapAt_below hm (al_b w (.map #[] 0)))
  go_enter Tryz.func49, Tryz.ntmps49
  go_wp2_with fail
  have hsz : (w.alloc (.map #[] 0)).heap.size = w.heap.size + 1 := Array.size_push ..
  rw [hsz] at hra
  have m1 : MapAt ((w.alloc (.map #[] 0)).alloc o) w.heap.size [] := MapAt_below (map_new w) (al_b _ _)
  have hb1 : Below w.heap.size w ((w.alloc (.map #[] 0)).alloc o) := (al_b _ _).alloc (by rw [hsz]; omega) _
  generalize (w.alloc (.map #[] 0)).alloc o = w1 at *
  have hnd := hm.nodup
  have hlt := hm.lt
  clear hro hmm a1 a2 hm hsz
  go_loopw [] (fun wr => ∃ Dm left, RangeAt wr b0 (w.heap.size + 1) D left ∧ MapAt wr w.heap.size Dm ∧ Hid (Half F Dm left D) ∧ Below w.heap.size w wr) (fun wr => wr.rangeLeft b0 (w.heap.size + 1))
  case atStart => exact ⟨[], D, hra, m1, Half.start F D, hb1⟩
  case round =>
    clear hra m1 hb1
    obtain ⟨Dm, left, hra, hmap, HH, hb⟩ := hrel
    rcases Mp.next (P := Tryz.prog) hra 0 with ⟨rfl, hnx⟩ | ⟨l1, key, v, l2, w2, rfl, hnx, hent, hra2, ht2⟩
    · go_wp2
      go_ret2
      exact ⟨_, Dm, rfl, hmap, HH.out.done, hb⟩
    · have hml := rangeLeft_eq hra
      obtain ⟨y, hFy, hc⟩ := HF.out key v (range_mem hra (by simp))
      have hE2 : ErrVars w2 := hE.below hE.five (hb.trans (ht2.below (by omega)))
      have hmap2 : MapAt w2 w.heap.size Dm := hmap.kept (ht2.block _ (by omega))
      have hb2 : Below w.heap.size w w2 := hb.trans (ht2.below (by omega))
      have hcall := bareL v y hc w2 hE2
      have HT := Lib.hid (HH.out.turn hnd)
      have HK := Lib.hid hcall
      clear HH ht2 hcall hE2 hra hmap hb
      go_wp2_with (go_at_call 50; refine HK.out.mono ?_; rintro e w3 ⟨rfl, hb3⟩; obtain ⟨w4, hup, hm4, ht4⟩ := Mp.update (P := Tryz.prog) Tryz.underlying33 Tryz.underlying9 (MapAt_below hmap2 hb3) key (.int .i64 y))
      have hra4 : RangeAt w4 b0 (w.heap.size + 1) D (l1 ++ l2) := (RangeAt_below hra2 hb3).kept (ht4.block _ (by omega)) (ht4.block _ (by omega))
      have hb4 : Below w.heap.size w w4 := (hb2.trans (hb3.mono hb2.size)).trans (ht4.below (Nat.le_refl _))
      rw [← hFy] at hm4
      exact ⟨⟨_, l1 ++ l2, hra4, hm4, HT.out, hb4⟩, by rw [rangeLeft_eq hra4, hml]; simp⟩
set_option maxRecDepth 100000 in
set_option maxHeartbeats 1000000 in
theorem toMapI_any (b0 : Nat) (D : Mp.Pairs) (F : Value → Value) (w : World) (hm : MapAt w b0 D) (hE : ErrVars w) (hF : ∀ k v, (k, v) ∈ D → ∃ y, F v = .int .i64 y ∧ CastI v (some y)) :
    Calls Tryz.prog 53 #[.iface 92 (.map (some b0)), .func (.func 26) #[] #[], .func (.func 22) #[] #[]] w fun e w' => ∃ b Dm, e = .returned (.tuple #[.map (some b), .nilIface]) ∧ MapAt w' b Dm ∧ Dm.Perm (mapV F D) ∧ Below w.heap.size w w' := by
  have HF := Lib.hid hF
  clear hF
  have hmm := @run_makeMap Tryz.prog
  have a1 := as92_57 (.map (some b0))
  have a2 := as92_92 (.map (some b0))
  obtain ⟨o, hro, hra⟩ := Mp.range (P := Tryz.prog) Tryz.underlying92 (MapAt_below hm (al_b w (.map #[] 0)))
  go_enter Tryz.func53, Tryz.ntmps53
  go_wp2_with fail
  have hsz : (w.alloc (.map #[] 0)).heap.size = w.heap.size + 1 := Array.size_push ..
  rw [hsz] at hra
  have m1 : MapAt ((w.alloc (.map #[] 0)).alloc o) w.heap.size [] := MapAt_below (map_new w) (al_b _ _)
  have hb1 : Below w.heap.size w ((w.alloc (.map #[] 0)).alloc o) := (al_b _ _).alloc (by rw [hsz]; omega) _
  generalize (w.alloc (.map #[] 0)).alloc o = w1 at *
  have hnd := hm.nodup
  have hlt := hm.lt
  clear hro hmm a1 a2 hm hsz
  go_loopw [] (fun wr => ∃ Dm left, RangeAt wr b0 (w.heap.size + 1) D left ∧ MapAt wr w.heap.size Dm ∧ Hid (Half F Dm left D) ∧ Below w.heap.size w wr) (fun wr => wr.rangeLeft b0 (w.heap.size + 1))
  case atStart => exact ⟨[], D, hra, m1, Half.start F D, hb1⟩
  case round =>
    clear hra m1 hb1
    obtain ⟨Dm, left, hra, hmap, HH, hb⟩ := hrel
    rcases Mp.next (P := Tryz.prog) hra 0 with ⟨rfl, hnx⟩ | ⟨l1, key, v, l2, w2, rfl, hnx, hent, hra2, ht2⟩
    · go_wp2
      go_ret2
      exact ⟨_, Dm, rfl, hmap, HH.out.done, hb⟩
    · have hml := rangeLeft_eq hra
      obtain ⟨y, hFy, hc⟩ := HF.out key v (range_mem hra (by simp))
      have hE2 : ErrVars w2 := hE.below hE.five (hb.trans (ht2.below (by omega)))
      have hmap2 : MapAt w2 w.heap.size Dm := hmap.kept (ht2.block _ (by omega))
      have hb2 : Below w.heap.size w w2 := hb.trans (ht2.below (by omega))
      have hcall := bareI v y hc w2 hE2
      have HT := Lib.hid (HH.out.turn hnd)
      have HK := Lib.hid hcall
      clear HH ht2 hcall hE2 hra hmap hb
      go_wp2_with (go_at_call 26; refine HK.out.mono ?_; rintro e w3 ⟨rfl, hb3⟩; obtain ⟨w4, hup, hm4, ht4⟩ := Mp.update (P := Tryz.prog) Tryz.underlying57 Tryz.underlying9 (MapAt_below hmap2 hb3) key (.int .i64 y))
      have hra4 : RangeAt w4 b0 (w.heap.size + 1) D (l1 ++ l2) := (RangeAt_below hra2 hb3).kept (ht4.block _ (by omega)) (ht4.block _ (by omega))
      have hb4 : Below w.heap.size w w4 := (hb2.trans (hb3.mono hb2.size)).trans (ht4.below (Nat.le_refl _))
      rw [← hFy] at hm4
      exact ⟨⟨_, l1 ++ l2, hra4, hm4, HT.out, hb4⟩, by rw [rangeLeft_eq hra4, hml]; simp⟩

set_option maxRecDepth 100000 in
theorem wide_any (y : Int) (w : World) : Calls Tryz.prog 25 #[.int .i64 y] w fun e w' => e = .returned (.int .i64 y) ∧ w' = w := by
  go_enter Tryz.func25, Tryz.ntmps25
  go_wp2
  go_ret
  exact ⟨rfl, rfl⟩

set_option maxRecDepth 100000 in
set_option maxHeartbeats 1000000 in
theorem keys2_any (b0 : Nat) (D : Mp.Pairs) (w : World) (hm : MapAt w b0 D) (hF : ∀ k v, (k, v) ∈ D → ∃ y, v = .int .i64 y) :
    Calls Tryz.prog 24 #[.map (some b0), .func (.func 25) #[] #[]] w fun e w' => ∃ b Dm, e = .returned (.map (some b)) ∧ MapAt w' b Dm ∧ Dm.Perm (mapV id D) ∧ Below w.heap.size w w' := by
  have HF := Lib.hid hF
  clear hF
  have hmm := @run_makeMap Tryz.prog
  obtain ⟨o, hro, hra⟩ := Mp.range (P := Tryz.prog) Tryz.underlying57 (MapAt_below hm (al_b w (.map #[] 0)))
  go_enter Tryz.func24, Tryz.ntmps24
  go_wp2_with fail
  have hsz : (w.alloc (.map #[] 0)).heap.size = w.heap.size + 1 := Array.size_push ..
  rw [hsz] at hra
  have m1 : MapAt ((w.alloc (.map #[] 0)).alloc o) w.heap.size [] := MapAt_below (map_new w) (al_b _ _)
  have hb1 : Below w.heap.size w ((w.alloc (.map #[] 0)).alloc o) := (al_b _ _).alloc (by rw [hsz]; omega) _
  generalize (w.alloc (.map #[] 0)).alloc o = w1 at *
  have hnd := hm.nodup
  have hlt := hm.lt
  clear hro hmm hm hsz
  go_loopw [] (fun wr => ∃ Dm left, RangeAt wr b0 (w.heap.size + 1) D left ∧ MapAt wr w.heap.size Dm ∧ Hid (Half id Dm left D) ∧ Below w.heap.size w wr) (fun wr => wr.rangeLeft b0 (w.heap.size + 1))
  case atStart => exact ⟨[], D, hra, m1, Half.start id D, hb1⟩
  case round =>
    clear hra m1 hb1
    obtain ⟨Dm, left, hra, hmap, HH, hb⟩ := hrel
    rcases Mp.next (P := Tryz.prog) hra 0 with ⟨rfl, hnx⟩ | ⟨l1, key, v, l2, w2, rfl, hnx, hent, hra2, ht2⟩
    · go_wp2
      go_ret
      exact ⟨_, Dm, rfl, hmap, HH.out.done, hb⟩
    · have hml := rangeLeft_eq hra
      obtain ⟨y, rfl⟩ := HF.out key v (range_mem hra (by simp))
      have hmap2 : MapAt w2 w.heap.size Dm := hmap.kept (ht2.block _ (by omega))
      have hb2 : Below w.heap.size w w2 := hb.trans (ht2.below (by omega))
      have HT := Lib.hid (HH.out.turn hnd)
      obtain ⟨w4, hup, hm4, ht4⟩ := Mp.update (P := Tryz.prog) Tryz.underlying33 Tryz.underlying9 hmap2 key (.int .i64 y)
      clear HH ht2 hra hmap hb
      go_wp2_with (go_at_call 25; refine (wide_any y _).mono ?_; rintro e w3 ⟨rfl, rfl⟩)
      have hra4 : RangeAt w4 b0 (w.heap.size + 1) D (l1 ++ l2) := hra2.kept (ht4.block _ (by omega)) (ht4.block _ (by omega))
      have hb4 : Below w.heap.size w w4 := hb2.trans (ht4.below (Nat.le_refl _))
      exact ⟨⟨_, l1 ++ l2, hra4, hm4, HT.out, hb4⟩, by rw [rangeLeft_eq hra4, hml]; simp⟩
end Go.Proofs.YtcfknhboicomjaaGreatDoor.Ca

namespace Go.Proofs.YtcfknhboicomjaaGreatDoor.Ca
open Go.RowKit Fl Lw Go.Proofs.YtcfknhboicomjaaGreatDoorW.PrintWords
open Mp (MapAt Turns RangeAt)

/-- What the doors ToInt64, ToInt give: (n, whether there is no error). -/
def Gives (r : Option Int) (e : Ending) : Prop := ∃ n : Int, e = .returned (.tuple #[.int .i64 n, .bool r.isSome]) ∧ ∀ y, r = some y → n = y

set_option maxRecDepth 100000 in
theorem toInt64_any (x : Ent) (v : Value) (r : Option Int) (hv : ∀ w, Calls Tryz.prog 20 #[entAny x] w fun e w' => e = .returned v ∧ Below w.heap.size w w') (hc : CastL v r) (w : World) (hE : ErrVars w) :
    Calls Tryz.prog 7 #[entAny x] w fun e w' => Gives r e ∧ Below w.heap.size w w' := by
  have HE := Lib.hid hE
  have HC := Lib.hid hc
  clear hE hc
  unfold entAny anyV at *
  go_enter Tryz.func7, Tryz.ntmps7
  go_wp2_with fail
  refine (hv _).mono ?_
  rintro e w1 ⟨rfl, hb1⟩
  have hbx : Below w.heap.size w w1 := (al_b _ _).trans (hb1.mono (al_b _ _).size)
  have HE1 := Lib.hid (HE.out.below HE.out.five hbx)
  go_wp2_with fail
  refine (HC.out _ HE1.out).mono ?_
  rintro e w2 ⟨⟨u, rfl, hu⟩, hb2⟩
  have hb3 := hbx.trans (hb2.mono hbx.size)
  cases r with
  | none =>
    obtain ⟨y, t, p, rfl⟩ := hu
    go_wp2_with fail
    go_quiet (fail)
    go_wp2
    go_ret2
    exact ⟨⟨_, rfl, fun y h => (by cases h)⟩, below_drewN hb3 _⟩
  | some y =>
    obtain rfl : u = _ := hu
    go_wp2_with fail
    go_quiet (fail)
    go_wp2
    go_ret2
    exact ⟨⟨_, rfl, fun y h => (by cases h; rfl)⟩, below_drewN hb3 _⟩

set_option maxRecDepth 100000 in
theorem toInt_any (x : Ent) (v : Value) (r : Option Int) (hv : ∀ w, Calls Tryz.prog 20 #[entAny x] w fun e w' => e = .returned v ∧ Below w.heap.size w w') (hc : CastI v r) (w : World) (hE : ErrVars w) :
    Calls Tryz.prog 11 #[entAny x] w fun e w' => Gives r e ∧ Below w.heap.size w w' := by
  have HE := Lib.hid hE
  have HC := Lib.hid hc
  clear hE hc
  unfold entAny anyV at *
  go_enter Tryz.func11, Tryz.ntmps11
  go_wp2_with fail
  refine (hv _).mono ?_
  rintro e w1 ⟨rfl, hb1⟩
  have hbx : Below w.heap.size w w1 := (al_b _ _).trans (hb1.mono (al_b _ _).size)
  have HE1 := Lib.hid (HE.out.below HE.out.five hbx)
  go_wp2_with fail
  refine (HC.out _ HE1.out).mono ?_
  rintro e w2 ⟨⟨u, rfl, hu⟩, hb2⟩
  have hb3 := hbx.trans (hb2.mono hbx.size)
  cases r with
  | none =>
    obtain ⟨y, t, p, rfl⟩ := hu
    go_wp2_with fail
    go_quiet (fail)
    go_wp2
    go_ret2
    exact ⟨⟨_, rfl, fun y h => (by cases h)⟩, below_drewN hb3 _⟩
  | some y =>
    obtain rfl : u = _ := hu
    go_wp2_with fail
    go_quiet (fail)
    go_wp2
    go_ret2
    exact ⟨⟨_, rfl, fun y h => (by cases h; rfl)⟩, below_drewN hb3 _⟩

set_option maxRecDepth 100000 in
theorem castInt_any (x : Ent) (v : Value) (y : Int) (hv : ∀ w, Calls Tryz.prog 20 #[entAny x] w fun e w' => e = .returned v ∧ Below w.heap.size w w') (hc : CastI v (some y)) (w : World) (hE : ErrVars w) :
    Calls Tryz.prog 13 #[entAny x] w fun e w' => e = .returned (.int .i64 y) ∧ Below w.heap.size w w' := by
  have HE := Lib.hid hE
  have HC := Lib.hid hc
  clear hE hc
  unfold entAny anyV at *
  go_enter Tryz.func13, Tryz.ntmps13
  go_wp2_with fail
  refine (hv _).mono ?_
  rintro e w1 ⟨rfl, hb1⟩
  have hbx : Below w.heap.size w w1 := (al_b _ _).trans (hb1.mono (al_b _ _).size)
  have HE1 := Lib.hid (HE.out.below HE.out.five hbx)
  go_wp2_with fail
  refine (bareI v y HC.out _ HE1.out).mono ?_
  rintro e w2 ⟨rfl, hb2⟩
  go_wp2
  go_ret
  exact ⟨rfl, hbx.trans (hb2.mono hbx.size)⟩

/-- An Any that is a map of pairs. -/
def mapAny (A : Option Addr) (n cap : Nat) : Value := .agg #[.int .i64 21, .int .i64 0, .int .u64 0, .float .f64 0, .string ⟨#[]⟩, .slice none 0 0, .slice A n cap]

set_option maxRecDepth 100000 in
theorem value_map (V : Ent → Value) (hV : ValOf V) (A : Option Addr) (cap : Nat) (L : List Ent) (w : World) (hcap : L.length ≤ cap) (hn : L.length ≤ 60) (hG : ∀ x ∈ L, Good x) (hE : EntsAt w A L) :
    Calls Tryz.prog 20 #[mapAny A L.length cap] w fun e w' => ∃ b, e = .returned (.iface 92 (.map (some b))) ∧ MapAt w' b (mapOf V L) ∧ Below w.heap.size w w' := by
  have HE := Lib.hid (fun o => (hE.below (al_b w o)))
  have HG := Lib.hid hG
  have HV := Lib.hid hV
  clear hE hG hV
  unfold mapAny
  go_enter Tryz.func20, Tryz.ntmps20
  go_wp2_with fail
  refine (keyed_any V HV.out A cap L _ hcap hn HG.out (HE.out _)).mono ?_
  rintro e w1 ⟨rfl, hm, hb1⟩
  rw [show (w.alloc _).heap.size = w.heap.size + 1 from Array.size_push ..] at hm
  have hbx : Below w.heap.size w w1 := (al_b _ _).trans (hb1.mono (al_b _ _).size)
  go_wp2
  go_ret
  exact ⟨_, rfl, hm, hbx⟩

/-- What ToStringMapInt64, ToStringMapInt give of pairs. -/
def MapGives (F : Value → Value) (D : Mp.Pairs) (e : Ending) (w' : World) : Prop := ∃ b Dm, e = .returned (.tuple #[.map (some b), .bool true]) ∧ MapAt w' b Dm ∧ Dm.Perm (mapV F D)

set_option maxRecDepth 100000 in
theorem toMapL_E (b0 : Nat) (D : Mp.Pairs) (F : Value → Value) (w : World) (hm : MapAt w b0 D) (hE : ErrVars w) (hF : ∀ k v, (k, v) ∈ D → ∃ y, F v = .int .i64 y ∧ CastL v (some y)) :
    Calls Tryz.prog 21 #[.iface 92 (.map (some b0))] w fun e w' => ∃ b Dm, e = .returned (.tuple #[.map (some b), .nilIface]) ∧ MapAt w' b Dm ∧ Dm.Perm (mapV F D) ∧ Below w.heap.size w w' := by
  have H := Lib.hid (toMapL_any b0 D F w hm hE hF)
  clear hm hE hF
  go_enter Tryz.func21, Tryz.ntmps21
  go_wp2_with fail
  refine H.out.mono ?_
  rintro e w1 ⟨b, Dm, rfl, h1, h2, h3⟩
  go_wp2
  go_ret2
  exact ⟨b, Dm, rfl, h1, h2, h3⟩
set_option maxRecDepth 100000 in
theorem toMapI_E (b0 : Nat) (D : Mp.Pairs) (F : Value → Value) (w : World) (hm : MapAt w b0 D) (hE : ErrVars w) (hF : ∀ k v, (k, v) ∈ D → ∃ y, F v = .int .i64 y ∧ CastI v (some y)) :
    Calls Tryz.prog 23 #[.iface 92 (.map (some b0))] w fun e w' => ∃ b Dm, e = .returned (.tuple #[.map (some b), .nilIface]) ∧ MapAt w' b Dm ∧ Dm.Perm (mapV F D) ∧ Below w.heap.size w w' := by
  have H := Lib.hid (toMapI_any b0 D F w hm hE hF)
  clear hm hE hF
  go_enter Tryz.func23, Tryz.ntmps23
  go_wp2_with fail
  refine H.out.mono ?_
  rintro e w1 ⟨b, Dm, rfl, h1, h2, h3⟩
  go_wp2
  go_ret2
  exact ⟨b, Dm, rfl, h1, h2, h3⟩

set_option maxRecDepth 100000 in
theorem mapL_any (V : Ent → Value) (hV : ValOf V) (F : Value → Value) (A : Option Addr) (cap : Nat) (L : List Ent) (w : World) (hcap : L.length ≤ cap) (hn : L.length ≤ 60) (hG : ∀ x ∈ L, Good x) (hE : EntsAt w A L) (hErr : ErrVars w)
    (hF : ∀ k v, (k, v) ∈ mapOf V L → ∃ y, F v = .int .i64 y ∧ CastL v (some y)) :
    Calls Tryz.prog 8 #[mapAny A L.length cap] w fun e w' => MapGives F (mapOf V L) e w' ∧ Below w.heap.size w w' := by
  have HERR := Lib.hid hErr
  have HF := Lib.hid hF
  have H := Lib.hid (fun o => value_map V hV A cap L (w.alloc o) hcap hn hG (hE.below (al_b w o)))
  clear hErr hF hV hE hG
  unfold mapAny at *
  go_enter Tryz.func8, Tryz.ntmps8
  go_wp2_with fail
  refine (H.out _).mono ?_
  rintro e w1 ⟨b0, rfl, hm, hb1⟩
  have hbx : Below w.heap.size w w1 := (al_b _ _).trans (hb1.mono (al_b _ _).size)
  have H2 := Lib.hid (toMapL_E b0 _ F w1 hm (HERR.out.below HERR.out.five hbx) HF.out)
  clear hm HF H
  go_wp2_with fail
  refine H2.out.mono ?_
  rintro e w2 ⟨b, Dm, rfl, h1, h2, h3⟩
  have hb3 := hbx.trans (h3.mono hbx.size)
  go_wp2_with fail
  go_quiet (fail)
  go_wp2
  go_ret2
  exact ⟨⟨b, Dm, rfl, MapAt_below h1 (below_drewN (Below.refl _ _) _), h2⟩, below_drewN hb3 _⟩

theorem mapV_id (D : Mp.Pairs) : mapV id D = D := by simp [mapV]
theorem perm_ints {F : Value → Value} {D Dm : Mp.Pairs} (hp : Dm.Perm (mapV F D)) (hF : ∀ k v, (k, v) ∈ D → ∃ y, F v = .int .i64 y) : ∀ k v, (k, v) ∈ Dm → ∃ y, v = .int .i64 y := by
  intro k v h
  obtain ⟨q, hq, he⟩ := List.mem_map.1 (hp.mem_iff.1 h)
  obtain ⟨y, hy⟩ := hF q.1 q.2 hq
  have : v = F q.2 := (congrArg Prod.snd he).symm
  exact ⟨y, this.trans hy⟩

set_option maxRecDepth 100000 in
theorem mapI_any (V : Ent → Value) (hV : ValOf V) (F : Value → Value) (A : Option Addr) (cap : Nat) (L : List Ent) (w : World) (hcap : L.length ≤ cap) (hn : L.length ≤ 60) (hG : ∀ x ∈ L, Good x) (hE : EntsAt w A L) (hErr : ErrVars w)
    (hF : ∀ k v, (k, v) ∈ mapOf V L → ∃ y, F v = .int .i64 y ∧ CastI v (some y)) :
    Calls Tryz.prog 12 #[mapAny A L.length cap] w fun e w' => MapGives F (mapOf V L) e w' ∧ Below w.heap.size w w' := by
  have HERR := Lib.hid hErr
  have HF := Lib.hid hF
  have H := Lib.hid (fun o => value_map V hV A cap L (w.alloc o) hcap hn hG (hE.below (al_b w o)))
  clear hErr hF hV hE hG
  unfold mapAny at *
  go_enter Tryz.func12, Tryz.ntmps12
  go_wp2_with fail
  refine (H.out _).mono ?_
  rintro e w1 ⟨b0, rfl, hm, hb1⟩
  have hbx : Below w.heap.size w w1 := (al_b _ _).trans (hb1.mono (al_b _ _).size)
  have H2 := Lib.hid (toMapI_E b0 _ F w1 hm (HERR.out.below HERR.out.five hbx) HF.out)
  clear hm H
  go_wp2_with fail
  refine H2.out.mono ?_
  rintro e w2 ⟨b, Dm, rfl, h1, h2, h3⟩
  have hb3 := hbx.trans (h3.mono hbx.size)
  have h1d : MapAt w2.drew b Dm := MapAt_below h1 (Below.refl _ _).drew
  have H3 := Lib.hid (keys2_any b Dm w2.drew h1d (perm_ints h2 (fun k v hk => (HF.out k v hk).imp fun _ h => h.1)))
  have HP := Lib.hid h2
  clear h1 h1d H2 HF h2
  go_wp2_with fail
  go_region_law (first
    | (go_simp; go_at_call 24; refine H3.out.mono ?_; rintro e w4 ⟨b4, D4, rfl, m4, p4, hb4⟩))
  all_goals
    (go_wp2
     go_ret2
     exact ⟨⟨b4, D4, rfl, m4, (p4.trans (by rw [mapV_id])).trans HP.out⟩, hb3.drew.trans (hb4.mono hb3.size)⟩)
end Go.Proofs.YtcfknhboicomjaaGreatDoor.Ca
