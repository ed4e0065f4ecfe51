/- castPairs: pairs of plain values, at most 60. -/
import Derived.Test.YtcfknhboicomjaaGreatDoorVals
import Derived.Test.YtcfknhboicomjaaGreatDoorWithin
import Derived.Test.YtcfknhboicomjaaGreatDoorMaps
import Derived.Test.YtcfknhboicomjaaGreatDoorWWords
import Derived.Deep.AppendLies
import Derived.Deep.RegionLaw
namespace Go.Proofs.YtcfknhboicomjaaGreatDoor.Ca
open Go.RowKit Fl Lw Go.Proofs.YtcfknhboicomjaaGreatDoorW.PrintWords

def entCells (e : Ent) : List Value := [.string e.key, .int .i64 e.k, .int .i64 e.i, .int .u64 e.u, .float .f64 e.f, .string e.s, .slice none 0 0, .slice none 0 0]
def cellsOf (L : List Ent) : List Value := L.flatMap entCells
def Good (e : Ent) : Prop := 0 ≤ e.k ∧ e.k ≤ 14 ∧ FloatOk e.f ∧ e.s.size ≤ 400
theorem cellsOf_snoc (L : List Ent) (e : Ent) : cellsOf (L ++ [e]) = cellsOf L ++ entCells e := by simp [cellsOf]

/-- What castPairs reads: entries of whatever make. -/
def RawAt (w : World) (A : Option Addr) (n : Nat) : Prop := ∀ j, j < n → ∃ (ad : Addr) (key : ByteArray) (k i u : Int) (f : Nat) (s : ByteArray) (A1 : Option Addr) (n1 c1 : Nat) (A2 : Option Addr) (n2 c2 : Nat), A = some ad ∧
  w.cell? (ad.add (j * 8)) = some (.string key) ∧ w.cell? ⟨(ad.add (j * 8)).block, (ad.add (j * 8)).off + 1, none⟩ = some (.int .i64 k) ∧ w.cell? ⟨(ad.add (j * 8)).block, (ad.add (j * 8)).off + 2, none⟩ = some (.int .i64 i) ∧
  w.cell? ⟨(ad.add (j * 8)).block, (ad.add (j * 8)).off + 3, none⟩ = some (.int .u64 u) ∧ w.cell? ⟨(ad.add (j * 8)).block, (ad.add (j * 8)).off + 4, none⟩ = some (.float .f64 f) ∧ w.cell? ⟨(ad.add (j * 8)).block, (ad.add (j * 8)).off + 5, none⟩ = some (.string s) ∧
  w.cell? ⟨(ad.add (j * 8)).block, (ad.add (j * 8)).off + 6, none⟩ = some (.slice A1 n1 c1) ∧ w.cell? ⟨(ad.add (j * 8)).block, (ad.add (j * 8)).off + 7, none⟩ = some (.slice A2 n2 c2)
theorem RawAt.below {w w' : World} {A : Option Addr} {n : Nat} (h : RawAt w A n) (hb : Below w.heap.size w w') : RawAt w' A n := by
  intro j hj
  obtain ⟨ad, key, k, i, u, f, s, A1, n1, c1, A2, n2, c2, e, h0, h1, h2, h3, h4, h5, h6, h7⟩ := h j hj
  exact ⟨ad, key, k, i, u, f, s, A1, n1, c1, A2, n2, c2, e, pw_cell_below hb h0, pw_cell_below hb h1, pw_cell_below hb h2, pw_cell_below hb h3, pw_cell_below hb h4, pw_cell_below hb h5, pw_cell_below hb h6, pw_cell_below hb h7⟩

def z30 : Value := .agg #[.string ⟨#[]⟩, .int .i64 0, .int .i64 0, .int .u64 0, .float .f64 0, .string ⟨#[]⟩, .slice none 0 0, .slice none 0 0]
theorem info30 : (Tryz.prog.info? 30).map (fun i => (i.zero, i.size, i.bytes)) = some (some z30, 8, 112) := by kernel_rfl
theorem oc8 (key : ByteArray) (k i u : Int) (f : Nat) (s : ByteArray) : ∀ x ∈ [Value.string key, .int .i64 k, .int .i64 i, .int .u64 u, .float .f64 f, .string s, .slice none 0 0, .slice none 0 0], x.oneCell' = true := by
  intro x hx
  simp at hx
  rcases hx with rfl | rfl | rfl | rfl | rfl | rfl | rfl | rfl <;> rfl
theorem ocEnt (e : Ent) : ∀ u ∈ entCells e, u.oneCell' = true := by
  intro u hu
  simp [entCells] at hu
  rcases hu with rfl | rfl | rfl | rfl | rfl | rfl | rfl | rfl <;> rfl

theorem Good.cells {e : Ent} (_ : Good e) : entCells e = [.string e.key, .int .i64 e.k, .int .i64 e.i, .int .u64 e.u, .float .f64 e.f, .string e.s, .slice none 0 0, .slice none 0 0] := rfl
theorem own_snoc {w : World} {base : Nat} {v : Value} {L : List Ent} {e : Ent} {xs : List Value} (h : w.ownsRow base 30 8 v (L.length + 1) (cellsOf L ++ xs)) (hx : entCells e = xs) : w.ownsRow base 30 8 v (L ++ [e]).length (cellsOf (L ++ [e])) := by
  rw [List.length_append, cellsOf_snoc, hx]; exact h
def PairsEnd (n : Nat) (w : World) (e : Ending) (w' : World) : Prop :=
  ∃ (v : Value) (L : List Ent), e = .returned v ∧ L.length = n ∧ (∀ x ∈ L, Good x) ∧ w'.ownsRow w.heap.size 30 8 v n (cellsOf L) ∧ Below w.heap.size w w'

theorem own_below {w w' : World} {base n size : Nat} {e : TypeId} {v : Value} {xs : List Value} (h : w.ownsRow base e size v n xs) (hb : Below w.heap.size w w') : w'.ownsRow base e size v n xs :=
  h.kept (row := none) ⟨hb.os, hb.tape, hb.output, hb.size, fun k hk _ => hb.block k hk⟩ (by cases v.ownBlock <;> simp)
set_option maxRecDepth 100000 in
set_option maxHeartbeats 4000000 in
theorem pairs_any (A : Option Addr) (len cap : Nat) (hcap : len ≤ cap) (w : World) (hr : RawAt w A len) : Calls Tryz.prog 6 #[.slice A len cap] w (PairsEnd (min len 60) w) := by
  have HR := Lib.hid hr
  clear hr
  have p1 : (0 : Int) ≤ min (len : Int) 60 := by omega
  have p2 : min (len : Int) 60 ≤ (cap : Int) := by omega
  have p3 : (min (len : Int) 60).toNat = min len 60 := by omega
  have p4 : max (min (len : Int) 60) 0 = (min len 60 : Nat) := by omega
  go_enter Tryz.func6, Tryz.ntmps6
  go_wp2_with fail
  try simp only [p3, p4]
  obtain ⟨n, hn⟩ : ∃ n, min len 60 = n := ⟨_, rfl⟩
  have hnl : n ≤ len := by omega
  have hn60 : n ≤ 60 := by omega
  rw [hn]
  clear p1 p2 p3 p4
  go_loopw [3, 12] (fun ov iv wr => ∃ (L : List Ent), L.length ≤ n ∧ iv = .int .i64 L.length ∧ wr.ownsRow w.heap.size 30 8 ov L.length (cellsOf L) ∧ Hid (∀ x ∈ L, Good x) ∧ Below w.heap.size w wr) (fun _ iv _ => n - (intOf iv).toNat)
  case atStart => exact ⟨[], Nat.zero_le _, rfl, World.ownsRow_nil _ _ _ _, (fun x hx => absurd hx (by simp)), Below.refl _ _⟩
  case round =>
    obtain ⟨L, hk, rfl, hown, HG, hb⟩ := hrel
    by_cases hlt : L.length < n
    · have p1 : (0 : Int) ≤ (L.length : Int) := by omega
      have p2 : (L.length : Int) < (n : Int) := by omega
      obtain ⟨ad, key, k, i, u, f, s, A1, n1, c1, A2, n2, c2, rfl, h0, h1, h2, h3, h4, h5, h6, h7⟩ := (HR.out.below hb) L.length (by omega)
      have sf := Wd.store_float
      go_wp2_with fail
      obtain ⟨W, hW⟩ : ∃ W, wr.alloc (.cells #[.string key, .int .i64 k, .int .i64 i, .int .u64 u, .float .f64 f, .string s, .slice A1 n1 c1, .slice A2 n2 c2] 30) = W := ⟨_, rfl⟩
      have hbW : Below w.heap.size w W.drew := hW ▸ (hb.alloc hb.size _).drew
      have r : W.heap[wr.heap.size]? = some (.cells #[.string key, .int .i64 k, .int .i64 i, .int .u64 u, .float .f64 f, .string s, .slice A1 n1 c1, .slice A2 n2 c2] 30 (0, 0)) := hW ▸ heap_alloc_new wr _
      have hownW : W.drew.ownsRow w.heap.size 30 8 u3 L.length (cellsOf L) := hW ▸ (own_below hown (al_b _ _)).drew
      have hBlt : wr.heap.size < W.drew.heap.size := by rw [← hW]; simp [World.drew]
      rw [hW]
      generalize wr.heap.size = B at *
      have e0 := Wd.cellrow r 0 (.string key) rfl
      have e1 := Wd.cellrow r 1 (.int .i64 k) rfl
      have e2 := Wd.cellrow r 2 (.int .i64 i) rfl
      have e3 := Wd.cellrow r 3 (.int .u64 u) rfl
      have e4 := Wd.cellrow r 4 (.float .f64 f) rfl
      have e5 := Wd.cellrow r 5 (.string s) rfl
      have e6 := Wd.cellrow r 6 (.slice A1 n1 c1) rfl
      have e7 := Wd.cellrow r 7 (.slice A2 n2 c2) rfl
      have q1 : (0 : Int) ≤ min (key.size : Int) 400 := by omega
      have q2 : min (key.size : Int) 400 ≤ (key.size : Int) := by omega
      have hpl := fun X => Wd.plain_any k i u f s (.slice A1 n1 c1) (.slice A2 n2 c2) X
      simp only [Wd.anyW, Wd.PlainEnd, Wd.anyV] at hpl
      have HG3 : Hid (∀ x, Good x → Hid (∀ y ∈ L ++ [x], Good y)) := fun x hx y hy => by
        rcases List.mem_append.1 hy with h | h
        · exact HG.out y h
        · rw [List.mem_singleton.1 h]; exact hx
      have hl60 : (L.length + 1) * 112 ≤ 140737488355328 := by omega
      clear h0 h1 h2 h3 h4 h5 h6 h7 hown hW r sf
      go_region_law (first
          | ((with_reducible refine step_append_cells w.heap.size ?hw (.tmp 16) (.tmp 28) 22 30 z30 8 112 ?ho Tryz.underlying22 info30 ?hz ?h1 ?h2 u3 L.length (cellsOf L) [.string (key.extract 0 (min (key.size : Int) 400).toNat), .int .i64 k', .int .i64 i', .int .u64 u', .float .f64 f', .string t', .slice none 0 0, .slice none 0 0] ?hs ?hx ?hy (oc8 _ _ _ _ _ _) (own_below hownW hb4) (hbW.trans (hb4.mono hbW.size)) (Nat.le_trans hbW.size hb4.size) hl60 ?_); (case hw => rfl); (case ho => rfl); (case hz => rfl); (case h1 => omega); (case h2 => omega); (case hs => rfl); (case hx => rfl); (case hy => rfl); intro v1 w5 hown5 hb5 hg5 hat5)
          | (go_simp; go_at_call 18; refine (hpl _).mono ?_; rintro e w4 ⟨⟨k', i', u', f', t', rfl, k0, k1, hf, ht⟩, hb4⟩; have g0 := (hb4.cell (p := ⟨B, 0, none⟩) hBlt).trans e0))
      all_goals
        (have G : Good ⟨key.extract 0 (min (key.size : Int) 400).toNat, k', i', u', f', t'⟩ := ⟨k0, k1, hf, ht⟩
         have own6 := own_snoc hown5 G.cells
         have HG2 := HG3.out _ G
         clear hpl HG3 hown5
         go_wp2
         exact ⟨⟨_, by simp; omega, by simp, own6, HG2, hb5⟩, by simp [intOf]; omega⟩)
    · obtain hLn : L.length = n := by omega
      go_wp2
      go_ret
      subst hn
      exact ⟨_, L, rfl, hLn, HG.out, hLn ▸ hown, hb⟩
end Go.Proofs.YtcfknhboicomjaaGreatDoor.Ca
