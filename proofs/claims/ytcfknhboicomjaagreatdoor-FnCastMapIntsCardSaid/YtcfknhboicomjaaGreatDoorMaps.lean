/- Maps with string keys, as lists of pairs: what a store, a look-up, a range and its steps give and leave; and the plain law of pairs in order: a map of them, the last of a key, how many keys. -/
import Derived.Maps.Range
import Derived.WalkKit
namespace Go.Proofs.YtcfknhboicomjaaGreatDoor.Mp
open Go
open Go.MapKept (heap_alloc)
open Go.ChangeMaps (setBlock)

/-- The pairs of a map. -/
abbrev Pairs := List (ByteArray × Value)

def get : Pairs → ByteArray → Option Value
  | [], _ => none
  | p :: D, k => if p.1 = k then some p.2 else get D k
def put : Pairs → ByteArray → Value → Pairs
  | [], k, v => [(k, v)]
  | p :: D, k, v => if p.1 = k then (k, v) :: D else p :: put D k v

def kv (e : MapEntry) : Value × Value := (e.key, e.val)
def sv (p : ByteArray × Value) : Value × Value := (.string p.1, p.2)

structure Reads (es : Array MapEntry) (clock : Nat) (D : Pairs) : Prop where
  old : ∀ x ∈ es.toList, x.born < clock
  born : (es.toList.map (·.born)).Nodup
  keys : (D.map (·.1)).Nodup
  eq : es.toList.map kv = D.map sv

/-- Block b holds a map whose pairs are D. -/
def MapAt (w : World) (b : Nat) (D : Pairs) : Prop := ∃ es clock, w.heap[b]? = some (.map es clock) ∧ Reads es clock D

/-- Of the old blocks only 'row' has turned; nothing else has. -/
structure Turns (w w' : World) (row : Nat) : Prop where
  os : w'.os = w.os
  tape : w'.tape = w.tape
  output : w'.output = w.output
  size : w'.heap.size = w.heap.size
  block : ∀ j, j ≠ row → w'.heap[j]? = w.heap[j]?

theorem find_get (k : ByteArray) : ∀ (l : List MapEntry) (D : Pairs) (i : Nat), l.map kv = D.map sv →
    (get D k = none ∧ Instr.findNow .string (.string k) l i = some none) ∨
    ∃ j e v, get D k = some v ∧ Instr.findNow .string (.string k) l i = some (some (i + j, v)) ∧ l[j]? = some e ∧ e.key = .string k ∧
      ∀ v', (l.modify j (fun e => { e with key := .string k, val := v' })).map kv = (put D k v').map sv
  | [], D, i, h => by
    cases D with
    | nil => exact .inl ⟨rfl, rfl⟩
    | cons p D => simp at h
  | e :: l, D, i, h => by
    cases D with
    | nil => simp at h
    | cons p D =>
      rw [List.map_cons, List.map_cons, List.cons.injEq] at h
      obtain ⟨h1, h2⟩ := h
      have hk : e.key = .string p.1 := congrArg Prod.fst h1
      have hv : e.val = p.2 := congrArg Prod.snd h1
      by_cases hpk : p.1 = k
      · right
        refine ⟨0, e, p.2, by simp [get, hpk], ?_, rfl, by rw [hk, hpk], fun v' => ?_⟩
        · have hb : (k == k) = true := (MapKept.bytes_beq _ _).2 rfl
          simp [Instr.findNow, hk, hpk, Instr.sameNow, hb, hv]
        · simp [List.modify, put, hpk, h2, kv, sv]
      · have hb : (k == p.1) = false := by
          cases hc : k == p.1 with
          | false => rfl
          | true => exact absurd ((MapKept.bytes_beq _ _).1 hc).symm hpk
        rcases find_get k l D (i + 1) h2 with ⟨h3, h4⟩ | ⟨j, e', v, h3, h4, h5, h6, h7⟩
        · left
          refine ⟨by simp [get, hpk, h3], ?_⟩
          simp [Instr.findNow, hk, Instr.sameNow, hb, h4]
        · right
          refine ⟨j + 1, e', v, by simp [get, hpk, h3], ?_, by simpa using h5, h6, fun v' => ?_⟩
          · simp [Instr.findNow, hk, Instr.sameNow, hb, h4]; omega
          · have := h7 v'
            rw [List.modify_succ_cons]
            simp [put, hpk, this, h1]

theorem put_new : ∀ (D : Pairs) (k : ByteArray) (v : Value), get D k = none → put D k v = D ++ [(k, v)]
  | [], k, v, _ => rfl
  | p :: D, k, v, h => by
    by_cases hp : p.1 = k
    · simp [get, hp] at h
    · simp [get, hp] at h
      simp [put, hp, put_new D k v h]
theorem get_none : ∀ (D : Pairs) (k : ByteArray), get D k = none ↔ k ∉ D.map (·.1)
  | [], k => by simp [get]
  | p :: D, k => by
    by_cases hp : p.1 = k
    · simp [get, hp]
    · have := get_none D k
      rw [get, if_neg hp, this, List.map_cons, List.mem_cons, not_or]
      exact ⟨fun h => ⟨fun e => hp e.symm, h⟩, fun h => h.2⟩
theorem put_keys : ∀ (D : Pairs) (k : ByteArray) (v : Value), (put D k v).map (·.1) = if get D k = none then D.map (·.1) ++ [k] else D.map (·.1)
  | [], k, v => by simp [put, get]
  | p :: D, k, v => by
    by_cases hp : p.1 = k
    · simp [put, get, hp]
    · have := put_keys D k v
      simp only [put, get, hp, if_false, List.map_cons, this]
      split <;> simp
theorem put_nodup (D : Pairs) (k : ByteArray) (v : Value) (h : (D.map (·.1)).Nodup) : ((put D k v).map (·.1)).Nodup := by
  rw [put_keys]
  split
  · rename_i hn
    rw [get_none] at hn
    exact List.nodup_append.2 ⟨h, by simp, fun a ha b hb => by simp at hb; subst hb; intro e; subst e; exact hn ha⟩
  · exact h
theorem get_put : ∀ (D : Pairs) (k : ByteArray) (v : Value) (k' : ByteArray), get (put D k v) k' = if k = k' then some v else get D k'
  | [], k, v, k' => by simp [put, get]
  | p :: D, k, v, k' => by
    by_cases hp : p.1 = k
    · subst hp
      by_cases hk : p.1 = k'
      · simp [put, get, hk]
      · simp [put, get, hk]
    · have ih := get_put D k v k'
      rw [put, if_neg hp]
      by_cases hk : p.1 = k'
      · have : k ≠ k' := fun e => hp (hk.trans e.symm)
        rw [get, if_pos hk, if_neg this, get, if_pos hk]
      · rw [get, if_neg hk, ih, get, if_neg hk]
theorem get_mem : ∀ (D : Pairs), (D.map (·.1)).Nodup → ∀ (k : ByteArray) (v : Value), get D k = some v ↔ (k, v) ∈ D
  | [], _, k, v => by simp [get]
  | p :: D, h, k, v => by
    rw [List.map_cons, List.nodup_cons] at h
    have ih := get_mem D h.2 k v
    by_cases hp : p.1 = k
    · subst hp
      have hn : (p.1, v) ∉ D := fun hm => h.1 (List.mem_map.2 ⟨_, hm, rfl⟩)
      simp [get, hn]
      constructor
      · intro e; rw [← e]
      · intro e; exact (congrArg Prod.snd e).symm
    · simp [get, hp, ih]
      intro e
      exact absurd (congrArg Prod.fst e).symm hp

section
variable {P : Program} {w : World} {mty kt et : TypeId} {b : Nat} {D : Pairs}

theorem setObj_turns (w : World) (b : Nat) (o : Obj) : Turns w { w with heap := w.heap.setIfInBounds b o } b :=
  ⟨rfl, rfl, rfl, by simp, fun j hj => by simp [Ne.symm hj]⟩

/-- m[k] = v -/
theorem update (hm : P.underlying mty = some (.map kt et)) (hk : P.underlying kt = some .string) (h : MapAt w b D) (k : ByteArray) (v : Value) :
    ∃ w', (Instr.mapUpdate mty (.map (some b)) (.string k) v).run P w = .ok () w' ∧ MapAt w' b (put D k v) ∧ Turns w w' b := by
  obtain ⟨es, clock, hb, R⟩ := h
  have hkey : MapKept.IsKey .string (.string k) := trivial
  rcases find_get k es.toList D 0 R.eq with ⟨h1, h2⟩ | ⟨j, e, v0, h1, h2, h3, h4, h5⟩
  · refine ⟨{ w with heap := w.heap.setIfInBounds b (.map (es.push { key := .string k, val := v, born := clock }) (clock + 1)) }, by simp [Instr.mapUpdate, run_underlying hm, MapKept.run_getObj_map hb, MapKept.run_checkKey hk hkey, MapKept.run_findKey hk h2, MapKept.run_setObj_map _ hb, Result.andThen], ?_, setObj_turns _ _ _⟩
    refine ⟨_, _, (MapKept.heap_set hb).1, ?_, ?_, put_nodup D k v R.keys, ?_⟩
    · intro x hx
      simp only [Array.toList_push, List.mem_append, List.mem_singleton] at hx
      rcases hx with hx | rfl
      · exact Nat.lt_succ_of_lt (R.old x hx)
      · exact Nat.lt_succ_self _
    · simp only [Array.toList_push, List.map_append, List.map_cons, List.map_nil]
      refine List.nodup_append.2 ⟨R.born, by simp, ?_⟩
      intro a ha c hc
      simp only [List.mem_singleton] at hc
      subst hc
      obtain ⟨x, hx, rfl⟩ := List.mem_map.1 ha
      exact Nat.ne_of_lt (R.old x hx)
    · rw [put_new D k v h1]
      simp [R.eq, kv, sv]
  · have hj : es[j]? = some e := by simpa using h3
    have h0 : Instr.findNow .string (.string k) es.toList 0 = some (some (j, v0)) := by simpa using h2
    refine ⟨{ w with heap := w.heap.setIfInBounds b (.map (es.modify j fun e => { e with key := .string k, val := v }) clock) }, by simp [Instr.mapUpdate, run_underlying hm, MapKept.run_getObj_map hb, MapKept.run_checkKey hk hkey, MapKept.run_findKey hk h0, hj, h4, MapKept.run_keyThatStays hkey, MapKept.run_setObj_map _ hb, Result.andThen], ?_, setObj_turns _ _ _⟩
    have hmod : ∀ f : MapEntry → MapEntry, (es.modify j f).toList = es.toList.modify j f := fun f => by
      apply List.ext_getElem?
      intro i
      simp [Array.getElem?_modify, List.getElem?_modify]
    have hborn : (es.modify j (fun e => { e with key := .string k, val := v })).toList.map (·.born) = es.toList.map (·.born) := by
      apply List.ext_getElem?
      intro i
      simp only [List.getElem?_map, Array.getElem?_toList, Array.getElem?_modify]
      by_cases hij : j = i
      · subst hij
        cases he : es[j]? <;> simp
      · simp [hij]
    refine ⟨_, _, (MapKept.heap_set hb).1, ?_, ?_, put_nodup D k v R.keys, ?_⟩
    · intro x hx
      have : x.born ∈ (es.modify j (fun e => { e with key := .string k, val := v })).toList.map (·.born) := List.mem_map.2 ⟨x, hx, rfl⟩
      rw [hborn] at this
      obtain ⟨y, hy, e⟩ := List.mem_map.1 this
      rw [← e]; exact R.old y hy
    · rw [hborn]; exact R.born
    · rw [hmod]; exact h5 v

/-- v, ok := m[k], m[k] -/
theorem look (hm : P.underlying mty = some (.map kt et)) (hk : P.underlying kt = some .string) {z : Value} (hz : (P.info? et).map (·.zero) = some (some z)) (h : MapAt w b D) (k : ByteArray) (ok : Bool) :
    (Instr.lookup mty (.map (some b)) (.string k) ok).run P w = .ok (if ok then .tuple #[(get D k).getD z, .bool (get D k).isSome] else (get D k).getD z) w := by
  obtain ⟨es, clock, hb, R⟩ := h
  have hkey : MapKept.IsKey .string (.string k) := trivial
  obtain ⟨info, hinfo, hz⟩ := Option.map_eq_some_iff.1 hz
  rcases find_get k es.toList D 0 R.eq with ⟨h1, h2⟩ | ⟨j, e, v0, h1, h2, _⟩
  · simp [Instr.lookup, run_underlying hm, MapKept.run_getObj_map hb, MapKept.run_checkKey hk hkey, MapKept.run_findKey hk h2, h1, Result.andThen, zeroValue, typeInfo, hinfo, hz]
  · simp [Instr.lookup, run_underlying hm, MapKept.run_getObj_map hb, MapKept.run_checkKey hk hkey, MapKept.run_findKey hk h2, h1, Result.andThen]

/-- Block r is an iterator over the map in block b, whose pairs are D; left: those to come. -/
def RangeAt (w : World) (b r : Nat) (D left : Pairs) : Prop :=
  r ≠ b ∧ ∃ es clock since seen c0, w.heap[b]? = some (.map es clock) ∧ w.heap[r]? = some (.mapIter (some b) since seen c0) ∧ Reads es clock D ∧ (∀ x ∈ es.toList, x.born < since) ∧ since ≤ c0 ∧ since ≤ clock ∧
    (leftOf es seen).toList.map kv = left.map sv

theorem range (hm : P.underlying mty = some (.map kt et)) (h : MapAt w b D) :
    ∃ o, (Instr.range mty (.map (some b))).run P w = .ok (.pointer (some ⟨w.heap.size, 0, none⟩)) (w.alloc o) ∧ RangeAt (w.alloc o) b w.heap.size D D := by
  obtain ⟨es, clock, hb, R⟩ := h
  have hlt : b < w.heap.size := (Array.getElem?_eq_some_iff.1 hb).1
  refine ⟨_, run_range_map w mty kt et b es clock hm hb, by omega, es, clock, clock, #[], clock, (heap_alloc w _).2 b hlt |>.trans hb, (heap_alloc w _).1, R, R.old, Nat.le_refl _, Nat.le_refl _, ?_⟩
  rw [← R.eq]
  have : (leftOf es #[]).toList = es.toList := by
    unfold leftOf
    rw [Array.toList_filter]
    exact List.filter_eq_self.2 fun _ _ => by simp
  rw [this]

theorem strike {L : List MapEntry} (hn : (L.map (·.born)).Nodup) {e : MapEntry} (he : e ∈ L) :
    ∃ L1 L2, L = L1 ++ e :: L2 ∧ L.filter (fun x => !(x.born == e.born)) = L1 ++ L2 := by
  obtain ⟨L1, L2, rfl⟩ := List.append_of_mem he
  refine ⟨L1, L2, rfl, ?_⟩
  rw [List.map_append, List.map_cons] at hn
  have h1 := List.nodup_append.1 hn
  have h2 := List.nodup_cons.1 h1.2.1
  rw [List.filter_append, List.filter_cons]
  have f1 : L1.filter (fun x => !(x.born == e.born)) = L1 := List.filter_eq_self.2 fun x hx => by
    have := h1.2.2 x.born (List.mem_map.2 ⟨x, hx, rfl⟩) e.born (by simp)
    simpa using this
  have f2 : L2.filter (fun x => !(x.born == e.born)) = L2 := List.filter_eq_self.2 fun x hx => by
    have : x.born ≠ e.born := fun q => h2.1 (q ▸ List.mem_map.2 ⟨x, hx, rfl⟩)
    simpa using this
  simp [f1, f2]

theorem map_split {α β γ : Type} (f : α → γ) (g : β → γ) : ∀ (L1 : List α) (e : α) (L2 : List α) (left : List β), (L1 ++ e :: L2).map f = left.map g →
    ∃ l1 p l2, left = l1 ++ p :: l2 ∧ f e = g p ∧ L1.map f = l1.map g ∧ L2.map f = l2.map g
  | [], e, L2, left, h => by
    cases left with
    | nil => simp at h
    | cons p l => simp at h; exact ⟨[], p, l, rfl, h.1, rfl, h.2⟩
  | a :: L1, e, L2, left, h => by
    cases left with
    | nil => simp at h
    | cons p l =>
      rw [List.cons_append, List.map_cons, List.map_cons, List.cons.injEq] at h
      obtain ⟨l1, q, l2, rfl, h1, h2, h3⟩ := map_split f g L1 e L2 l h.2
      exact ⟨p :: l1, q, l2, rfl, h1, by simp [h.1, h2], h3⟩

theorem next {r : Nat} {left : Pairs} (h : RangeAt w b r D left) (ty : TypeId) :
    (left = [] ∧ (Instr.next (.pointer (some ⟨r, 0, none⟩)) false ty).run P w = .ok (.tuple #[.bool false]) w) ∨
    ∃ l1 k v l2 w', left = l1 ++ (k, v) :: l2 ∧ (Instr.next (.pointer (some ⟨r, 0, none⟩)) false ty).run P w = .ok (.tuple #[.bool true, .string k, v]) w' ∧
      (Instr.entry (.pointer (some ⟨r, 0, none⟩))).run P w' = .ok (.tuple #[.string k, v]) w' ∧ RangeAt w' b r D (l1 ++ l2) ∧ Turns w w' r := by
  obtain ⟨hne, es, clock, since, seen, c0, hb, hr, R, hold, hsc, hcl, hl⟩ := h
  rcases run_next_at (P := P) w ty r b since c0 seen es clock hr hb hold hsc with ⟨h0, hrun⟩ | ⟨e, he, w1, hw1, hrun⟩
  · left
    refine ⟨?_, hrun⟩
    have : (leftOf es seen).toList = [] := by
      apply List.length_eq_zero_iff.1
      simpa using h0
    rw [this] at hl
    simpa using hl.symm
  · right
    have hm := mem_left he
    have hnd : ((leftOf es seen).toList.map (·.born)).Nodup := by
      have : (leftOf es seen).toList.Sublist es.toList := by
        unfold leftOf
        rw [Array.toList_filter]
        exact List.filter_sublist
      exact (this.map _).nodup R.born
    obtain ⟨L1, L2, hL, hF⟩ := strike hnd he
    rw [hL] at hl
    obtain ⟨l1, p, l2, rfl, hp, h1, h2⟩ := map_split kv sv L1 e L2 left hl
    have hk : e.key = .string p.1 := congrArg Prod.fst hp
    have hv : e.val = p.2 := congrArg Prod.snd hp
    rw [hk, hv] at hrun
    have hlr : r < w.heap.size := (Array.getElem?_eq_some_iff.1 hr).1
    have hh : w1.heap = w.heap := by rcases hw1 with rfl | rfl <;> rfl
    have hblk : ∀ j, j ≠ r → (setBlock w1 r (.mapIter (some b) since (seen.push e.born) clock)).heap[j]? = w.heap[j]? := fun j hj => by
      simp [setBlock, hh, Ne.symm hj]
    have hr' : (setBlock w1 r (.mapIter (some b) since (seen.push e.born) clock)).heap[r]? = some (.mapIter (some b) since (seen.push e.born) clock) := by
      simp [setBlock, hh, hlr]
    have hb' := (hblk b (Ne.symm hne)).trans hb
    refine ⟨l1, p.1, p.2, l2, _, rfl, hrun, ?_, ?_, ?_⟩
    · rw [run_entry_at _ r b since seen es clock e hr' hb' hm.1 R.born, hk, hv]
    · refine ⟨hne, es, clock, since, seen.push e.born, clock, hb', hr', R, hold, hcl, hcl, ?_⟩
      have : (leftOf es (seen.push e.born)).toList = L1 ++ L2 := by
        rw [← hF]
        unfold leftOf
        rw [Array.toList_filter, Array.toList_filter, List.filter_filter]
        apply List.filter_congr
        intro x _
        rw [contains_push]
        cases seen.contains x.born <;> cases (x.born == e.born) <;> rfl
      rw [this, List.map_append, List.map_append, h1, h2]
    · rcases hw1 with rfl | rfl
      · exact ⟨rfl, rfl, rfl, by simp [setBlock], fun j hj => hblk j hj⟩
      · exact ⟨rfl, rfl, rfl, by simp [setBlock, hh], fun j hj => hblk j hj⟩

theorem Turns.below {B row : Nat} {w' : World} (h : Turns w w' row) (hB : B ≤ row) : RowKit.Below B w w' := ⟨h.os, h.tape, h.output, by rw [h.size]; exact Nat.le_refl _, fun k hk => h.block k (by omega)⟩
theorem RangeAt.kept {r : Nat} {left : Pairs} {w' : World} (h : RangeAt w b r D left) (hb : w'.heap[b]? = w.heap[b]?) (hr : w'.heap[r]? = w.heap[r]?) : RangeAt w' b r D left := by
  obtain ⟨hne, es, clock, since, seen, c0, h1, h2, h3⟩ := h
  exact ⟨hne, es, clock, since, seen, c0, hb.trans h1, hr.trans h2, h3⟩
theorem RangeAt.lt {r : Nat} {left : Pairs} (h : RangeAt w b r D left) : b < w.heap.size ∧ r < w.heap.size := by
  obtain ⟨_, es, clock, since, seen, c0, h1, h2, _⟩ := h
  exact ⟨(Array.getElem?_eq_some_iff.1 h1).1, (Array.getElem?_eq_some_iff.1 h2).1⟩
theorem MapAt.kept {w' : World} (h : MapAt w b D) (hb : w'.heap[b]? = w.heap[b]?) : MapAt w' b D := by
  obtain ⟨es, clock, h1, h2⟩ := h
  exact ⟨es, clock, hb.trans h1, h2⟩
theorem MapAt.lt (h : MapAt w b D) : b < w.heap.size := by
  obtain ⟨es, clock, h1, _⟩ := h
  exact (Array.getElem?_eq_some_iff.1 h1).1
theorem MapAt.nodup (h : MapAt w b D) : (D.map (·.1)).Nodup := by
  obtain ⟨es, clock, _, h2⟩ := h
  exact h2.keys
end
end Go.Proofs.YtcfknhboicomjaaGreatDoor.Mp

namespace Go.Proofs.YtcfknhboicomjaaGreatDoor.Lw
open Go Mp

/-- A pair: its key, and its Any's kind, ints, float, text. -/
structure Ent where
  key : ByteArray
  k : Int
  i : Int
  u : Int
  f : Nat
  s : ByteArray

def mapOf (V : Ent → Value) (l : List Ent) : Pairs := l.foldl (fun D e => put D e.key (V e)) []
theorem mapOf_snoc (V : Ent → Value) (l : List Ent) (e : Ent) : mapOf V (l ++ [e]) = put (mapOf V l) e.key (V e) := by simp [mapOf]
def lastOf (key : ByteArray) (l : List Ent) : Option Ent := l.reverse.find? (fun e => decide (e.key = key))
theorem lastOf_snoc (key : ByteArray) (l : List Ent) (e : Ent) : lastOf key (l ++ [e]) = if e.key = key then some e else lastOf key l := by
  unfold lastOf
  rw [List.reverse_append, List.reverse_singleton, List.singleton_append, List.find?_cons]
  by_cases h : e.key = key <;> simp [h]
theorem lastOf_mem {key : ByteArray} {l : List Ent} {e : Ent} (h : lastOf key l = some e) : e ∈ l ∧ e.key = key :=
  ⟨by simpa using List.mem_of_find?_eq_some h, by simpa using List.find?_some h⟩
theorem snoc_ind {α : Type} {P : List α → Prop} (h0 : P []) (h1 : ∀ l a, P l → P (l ++ [a])) (l : List α) : P l := by
  have : ∀ r : List α, P r.reverse := by
    intro r
    induction r with
    | nil => exact h0
    | cons a r ih => rw [List.reverse_cons]; exact h1 _ _ ih
  simpa using this l.reverse
theorem get_mapOf (V : Ent → Value) (key : ByteArray) (l : List Ent) : get (mapOf V l) key = (lastOf key l).map V := by
  induction l using snoc_ind with
  | h0 => rfl
  | h1 l e ih =>
    rw [mapOf_snoc, get_put, lastOf_snoc, ih]
    by_cases h : e.key = key <;> simp [h]
theorem mapOf_nodup (V : Ent → Value) (l : List Ent) : ((mapOf V l).map (·.1)).Nodup := by
  induction l using snoc_ind with
  | h0 => exact List.nodup_nil
  | h1 l e ih => rw [mapOf_snoc]; exact put_nodup _ _ _ ih
def cnt (l : List Ent) : Nat := (mapOf (fun _ => .nilIface) l).length
theorem put_length (D : Pairs) (k : ByteArray) (v : Value) : (put D k v).length = D.length + (if get D k = none then 1 else 0) := by
  have := congrArg List.length (put_keys D k v)
  rw [List.length_map] at this
  rw [this]
  split <;> simp
theorem map_length (V : Ent → Value) (l : List Ent) : (mapOf V l).length = cnt l := by
  unfold cnt
  induction l using snoc_ind with
  | h0 => rfl
  | h1 l e ih =>
    rw [mapOf_snoc, mapOf_snoc, put_length, put_length, ih, get_mapOf, get_mapOf]
    cases lastOf e.key l <;> simp
theorem cnt_snoc (l : List Ent) (e : Ent) : cnt (l ++ [e]) = cnt l + (if (lastOf e.key l).isSome then 0 else 1) := by
  unfold cnt
  rw [mapOf_snoc, put_length, get_mapOf]
  cases lastOf e.key l <;> simp
theorem cnt_le (l : List Ent) : cnt l ≤ l.length := by
  induction l using snoc_ind with
  | h0 => exact Nat.le_refl _
  | h1 l e ih => rw [cnt_snoc, List.length_append]; split <;> simp <;> omega
theorem cnt_nil : cnt [] = 0 := rfl
theorem take_snoc (l : List Ent) (j : Nat) (h : j < l.length) : l.take (j + 1) = l.take j ++ [l[j]] := by
  rw [List.take_add_one, List.getElem?_eq_getElem h]; rfl

/-- The pairs with each value made to another. -/
def mapV (F : Value → Value) (D : Pairs) : Pairs := D.map fun p => (p.1, F p.2)
theorem mapV_keys (F : Value → Value) (D : Pairs) : (mapV F D).map (·.1) = D.map (·.1) := by simp [mapV, Function.comp_def]
theorem get_mapV (F : Value → Value) : ∀ (D : Pairs) (k : ByteArray), get (mapV F D) k = (get D k).map F
  | [], k => rfl
  | p :: D, k => by
    have := get_mapV F D k
    unfold mapV at this ⊢
    rw [List.map_cons, Mp.get, Mp.get]
    by_cases h : p.1 = k <;> simp [h, this]
theorem get_perm {D E : Pairs} (h : D.Perm E) (hn : (E.map (·.1)).Nodup) (k : ByteArray) : get D k = get E k := by
  have hn' : (D.map (·.1)).Nodup := (h.map (·.1)).nodup_iff.2 hn
  cases hg : get E k with
  | some v => exact (get_mem D hn' k v).2 (h.mem_iff.2 ((get_mem E hn k v).1 hg))
  | none =>
    rw [get_none] at hg ⊢
    intro hm
    exact hg ((h.map (·.1)).mem_iff.1 hm)

/-- The relation of a loop that reads one map in any order and writes another: Dm is written, left is to come. -/
def Half (F : Value → Value) (Dm left D : Pairs) : Prop := (Dm ++ mapV F left).Perm (mapV F D)
theorem Half.start (F : Value → Value) (D : Pairs) : Half F [] D D := List.Perm.refl _
theorem Half.turn {F : Value → Value} {Dm D l1 l2 : Pairs} {k : ByteArray} {v : Value} (h : Half F Dm (l1 ++ (k, v) :: l2) D) (hn : (D.map (·.1)).Nodup) :
    Half F (put Dm k (F v)) (l1 ++ l2) D := by
  have h2 : (Dm ++ mapV F (l1 ++ (k, v) :: l2)).Perm ((Dm ++ [(k, F v)]) ++ mapV F (l1 ++ l2)) := by
    simp only [mapV, List.map_append, List.map_cons, List.append_assoc, List.singleton_append]
    exact List.Perm.append_left _ List.perm_middle
  have hnd : ((Dm ++ mapV F (l1 ++ (k, v) :: l2)).map (·.1)).Nodup := (h.map (·.1)).nodup_iff.2 (by rw [mapV_keys]; exact hn)
  have hk : get Dm k = none := by
    rw [get_none]
    intro hm
    rw [List.map_append, mapV_keys] at hnd
    exact (List.nodup_append.1 hnd).2.2 k hm k (by simp) rfl
  unfold Half
  rw [put_new _ _ _ hk]
  exact h2.symm.trans h
theorem Half.mem {F : Value → Value} {Dm D l1 l2 : Pairs} {k : ByteArray} {v : Value} (h : Half F Dm (l1 ++ (k, v) :: l2) D) : (k, F v) ∈ mapV F D :=
  h.mem_iff.1 (by simp [mapV])
theorem Half.done {F : Value → Value} {Dm D : Pairs} (h : Half F Dm [] D) : Dm.Perm (mapV F D) := by simpa [Half, mapV] using h
end Go.Proofs.YtcfknhboicomjaaGreatDoor.Lw
