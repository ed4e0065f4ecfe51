/- The walk of strconv.fmtEFG at 'f': the text that grows. -/
import Derived.Test.YtcfknhboicomjaaGreatDoorFshort2
import Derived.OwnWalk
import Derived.Laws.AppendOwn
import Derived.Laws.OwnMore
namespace Go.Proofs.YtcfknhboicomjaaGreatDoor.Ft
open Go.RowKit Fy
open Go.Proofs.YtcfknhboicomjaaGreatDoorW.PrintWords (nums blk_set blk_cell blk_frozen blk_far blk_lt own_ne own_alloc blk_grown own_slice own_lt own_base)

/-- The text so far, in a row of the call's own, and the digits, in a block of another type. -/
structure Tx (w0 w : World) (v : Value) (bs : List Int) (bd : Nat) (cs : Array Value) : Prop where
  own : w.ownsRow w0.heap.size 5 1 v bs.length (nums .u8 bs)
  below : Below w0.heap.size w0 w
  dig : cs = #[] ∨ w.heap[bd]? = some (.cells cs 166 (0, 0))
theorem info5 : ∃ i, Tryz.prog.info? 5 = some i ∧ i.zero = some (.int .u8 0) ∧ i.size = 1 ∧ i.bytes = 1 := by
  have h : (Tryz.prog.info? 5).map (fun i => (i.zero, i.size, i.bytes)) = some (some (.int .u8 0), 1, 1) := by kernel_rfl
  obtain ⟨i, hi, hh⟩ := Option.map_eq_some_iff.1 h
  simp only [Prod.mk.injEq] at hh
  exact ⟨i, hi, hh⟩
theorem Tx.alloc {w0 w : World} {v : Value} {bs : List Int} {bd : Nat} {cs : Array Value} (h : Tx w0 w v bs bd cs) (o : Obj) : Tx w0 (w.alloc o) v bs bd cs :=
  ⟨own_alloc h.own o, h.below.alloc h.below.size o, h.dig.imp id fun h => (Below.heap_alloc w o bd (blk_lt h)).trans h⟩
theorem Tx.cell {w0 w : World} {v : Value} {bs : List Int} {bd : Nat} {cs : Array Value} (h : Tx w0 w v bs bd cs) {j : Nat} {u : Value} (hj : cs[j]? = some u) : w.cell? ⟨bd, j, none⟩ = some u := by
  rcases h.dig with rfl | h
  · simp at hj
  · exact (blk_cell h j).trans hj
theorem Tx.size {w0 w : World} {v : Value} {bs : List Int} {bd : Nat} {cs : Array Value} (h : Tx w0 w v bs bd cs) : w0.heap.size ≤ w.heap.size := h.below.size
theorem nums_snoc (bs : List Int) (b : Int) : nums .u8 bs ++ [.int .u8 b] = nums .u8 (bs ++ [b]) := by simp [nums]
theorem tx_append {ops : Array Oper} {rest : List Oper} {o : Oper} {a : Act} {Q : Exit → Act → World → Prop} {w0 w : World} {v : Value} {bs : List Int} {bd : Nat} {cs : Array Value}
    (hT : Tx w0 w v bs bd cs) (s x : Operand) (hgd : o.guard = none) (ho : o.op = .call { callee := .builtin .append, args := #[s, x], argTypes := #[77, 77] }) (hs : a.eval s = v)
    (ad : Addr) (m c : Nat) (ys : List Int) (hx : a.eval x = .slice (some ad) m c) (hl : ys.length = m) (hy : ∀ j u, (nums .u8 ys)[j]? = some u → w.cell? (ad.add j) = some u) (hlen : bs.length + m ≤ 100000)
    (h : ∀ v' w', Tx w0 w' v' (bs ++ ys) bd cs → wpList Tryz.prog ops Q rest (a.put o.dst v') w') : wpList Tryz.prog ops Q (o :: rest) a w := by
  obtain ⟨i, hi, hz, hsz, hby⟩ := info5
  refine wpList_append_own w hgd s x 77 ho w0.heap.size 5 i (.int .u8 0) 1 1 Tryz.underlying77 hi hz hsz hby rfl (by omega) v bs.length (nums .u8 bs) hs hT.own ad m c (nums .u8 ys) hx (by simp [nums, hl]) hy ?_ (by simp only [maxLen]; omega) (by omega) hT.below.size ?_
  · intro u hu
    simp only [nums, List.mem_map] at hu
    obtain ⟨_, _, rfl⟩ := hu
    rfl
  · intro v' w' h1 h2 _
    refine h v' w' ⟨?_, ?_, hT.dig.imp id fun hd => blk_grown hd h2 (own_ne hT.own hd (by decide))⟩
    · rw [List.length_append, hl]; simpa [nums] using h1
    · exact hT.below.grown h2 hT.below.size (fun k hk => own_base hT.own k hk)
theorem tx_append1 {ops : Array Oper} {rest : List Oper} {o : Oper} {a : Act} {Q : Exit → Act → World → Prop} {w0 w : World} {v : Value} {bs : List Int} {bd : Nat} {cs : Array Value} {b : Int} {g : Nat}
    (hT : Tx w0 w v bs bd cs) (hg : g = w.heap.size) (s x : Operand) (hgd : o.guard = none) (ho : o.op = .call { callee := .builtin .append, args := #[s, x], argTypes := #[77, 77] }) (hs : a.eval s = v)
    (hx : a.eval x = .slice (some ⟨g, 0, none⟩) 1 1) (hlen : bs.length + 1 ≤ 100000)
    (h : ∀ v' w', Tx w0 w' v' (bs ++ [b]) bd cs → wpList Tryz.prog ops Q rest (a.put o.dst v') w') : wpList Tryz.prog ops Q (o :: rest) a (w.alloc (.cells #[.int .u8 b] 5)) := by
  subst hg
  refine tx_append (hT.alloc (.cells #[.int .u8 b] 5)) s x hgd ho hs ⟨w.heap.size, 0, none⟩ 1 1 [b] hx rfl ?_ hlen h
  intro j u hu
  have hb : (w.alloc (.cells #[.int .u8 b] 5)).heap[w.heap.size]? = some (.cells #[.int .u8 b] 5 (0, 0)) := by simpa using heap_alloc_new w _
  match j with
  | 0 =>
    have : u = .int .u8 b := by simpa [nums] using hu.symm
    rw [this]
    exact (blk_cell hb 0).trans rfl
  | j + 1 => simp [nums] at hu
set_option maxRecDepth 100000 in
set_option maxHeartbeats 4000000 in
theorem fmt_zero (neg : Bool) (w0 w : World) (v : Value) (bd : Nat) (cs : Array Value) (hT : Tx w0 w v [] bd cs) :
    Calls Tryz.prog 100 #[v, .bool neg, .slice none 0 0, .int .i64 0, .int .i64 0, .int .i64 (-1), .int .u8 102, .bool true] w fun e w' => ∃ v', e = .returned v' ∧ Tx w0 w' v' ((if neg then [45] else []) ++ [48]) bd cs := by
  cases neg
  · go_enter Tryz.func100, Tryz.ntmps100
    go_wp2_with (at_builtin; refine tx_append1 (by assumption) rfl _ _ rfl rfl rfl rfl (by simp) ?_; intro v' w' hT')
    go_ret
    exact ⟨_, rfl, hT'⟩
  · go_enter Tryz.func100, Tryz.ntmps100
    go_wp2_with (at_builtin; refine tx_append1 (by assumption) rfl _ _ rfl rfl rfl rfl (by simp) ?_; intro v' w' hT')
    go_ret
    exact ⟨_, rfl, hT'⟩

def sgn (neg : Bool) : List Int := if neg then [45] else []
def ipart (dg : Nat → Int) (nd : Nat) (dp : Int) : List Int := if 0 < dp then (List.range (min nd dp.toNat)).map dg ++ List.replicate (dp.toNat - nd) 48 else [48]
def fpart (dg : Nat → Int) (nd : Nat) (dp : Int) : List Int := if dp < nd then [46] ++ List.replicate (-dp).toNat 48 ++ (List.range (nd - dp.toNat)).map (fun i => dg (dp.toNat + i)) else []
theorem sgn_len (neg : Bool) : (sgn neg).length ≤ 1 := by cases neg <;> simp [sgn]
theorem ip_len (neg : Bool) (dg : Nat → Int) (nd : Nat) (dp : Int) (h : nd ≤ 100) (h1 : dp ≤ 1000) : (sgn neg ++ ipart dg nd dp).length ≤ 2000 := by
  have := sgn_len neg
  rw [List.length_append]
  unfold ipart
  split
  · rw [List.length_append, List.length_map, List.length_range, List.length_replicate]; omega
  · simp; omega
theorem rep_snoc (i : Nat) (x : Int) : List.replicate (i + 1) x = List.replicate i x ++ [x] := List.replicate_succ' ..
theorem map_snoc (f : Nat → Int) (i : Nat) : (List.range (i + 1)).map f = (List.range i).map f ++ [f i] := by rw [List.range_succ, List.map_append]; rfl

set_option maxRecDepth 100000 in
set_option maxHeartbeats 4000000 in
theorem fmt_any (neg : Bool) (w0 w : World) (v : Value) (bd : Nat) (cs : Array Value) (dg : Nat → Int) (nd dl dc : Nat) (dp prec : Int) (hT : Tx w0 w v [] bd cs) (hdg : ∀ j, j < nd → cs[j]? = some (.int .u8 (dg j))) (hd1 : 1 ≤ nd) (hd2 : nd ≤ dl) (hd3 : dl ≤ dc) (hd4 : nd ≤ 100) (hp0 : -1000 ≤ dp) (hp1 : dp ≤ 1000)
    (hprec : prec = max ((nd : Int) - dp) 0) :
    Calls Tryz.prog 100 #[v, .bool neg, .slice (some ⟨bd, 0, none⟩) dl dc, .int .i64 dp, .int .i64 nd, .int .i64 prec, .int .u8 102, .bool true] w fun e w' => ∃ v', e = .returned v' ∧ Tx w0 w' v' (sgn neg ++ ipart dg nd dp ++ fpart dg nd dp) bd cs := by
  have Hdg := Lib.hid hdg
  have Hp := Lib.hid hprec
  clear hdg hprec
  go_enter Tryz.func100, Tryz.ntmps100
  go_upto_if 178 with (fail)
  go_cut [0] (fun a w1 => Tx w0 w1 a (sgn neg) bd cs)
  case first =>
    cases neg
    · go_wp2
      go_meet
      case rel => exact hT
    · go_wp2_with (at_builtin; refine tx_append1 (by assumption) rfl _ _ rfl rfl rfl rfl (by simp) ?_; intro v' w' hT')
      go_meet
      case rel => exact hT'
  case rest =>
    clear hT
    go_upto_if 183 with (fail)
    go_cut [0] (fun a w1 => Tx w0 w1 a (sgn neg ++ ipart dg nd dp) bd cs)
    case first =>
      by_cases hdp : 0 < dp
      · obtain ⟨P, hP⟩ : ∃ P : Nat, dp = (P : Int) := ⟨dp.toNat, by omega⟩
        obtain ⟨mm, hmm⟩ : ∃ mm, min nd P = mm := ⟨_, rfl⟩
        obtain ⟨zz, hzz⟩ : ∃ zz, P - nd = zz := ⟨_, rfl⟩
        have Hi : Hid (ipart dg nd dp = (List.range mm).map dg ++ List.replicate zz 48) := by
          show _ = _
          unfold ipart
          rw [if_pos hdp, hP]
          simp only [Int.toNat_natCast]
          rw [hmm, hzz]
        have e1 : min (nd : Int) (P : Int) = (mm : Int) := by omega
        have e1' : min (P : Int) (nd : Int) = (mm : Int) := by omega
        have e2 : (0 : Int) ≤ (mm : Int) := by omega
        have e3 : (mm : Int) ≤ (dc : Int) := by omega
        have e4 : IntKind.i64.wrap ((P : Int) - (mm : Int)) = (zz : Int) := by rw [wrapI (by omega) (by omega)]; omega
        have hmn : mm ≤ nd := by omega
        have hm1 : 1 ≤ mm := by omega
        have hzl : zz ≤ 1000 := by omega
        have dd : decide ((0 : Int) < (P : Int)) = true := by rw [← hP]; exact decide_eq_true hdp
        subst hP
        clear hmm hzz
        rw [dd]
        go_wp2_with (fail)
        go_loopw [0, 191] (fun a iv wr => ∃ i : Nat, i ≤ mm ∧ iv = .int .i64 i ∧ Tx w0 wr a (sgn neg ++ (List.range i).map dg) bd cs) (fun _ iv _ => mm - (intOf iv).toNat)
        case atStart => exact ⟨0, by omega, rfl, by simpa using hcut⟩
        case round =>
          obtain ⟨i, hi, rfl, hT⟩ := hrel
          by_cases hlt : i < mm
          · have p1 : (0 : Int) ≤ (i : Int) := by omega
            have p2 : (i : Int) < (mm : Int) := by omega
            have c1 : wr.cell? ⟨bd, i, none⟩ = some (.int .u8 (dg i)) := hT.cell (Hdg.out i (by omega))
            have hb := hT
            have hl : (sgn neg ++ (List.range i).map dg).length + 1 ≤ 100000 := by simp [sgn]; split <;> simp <;> omega
            go_wp2_with (at_builtin; refine tx_append1 hb rfl _ _ rfl rfl rfl rfl hl ?_; intro v' w' hT')
            exact ⟨⟨i + 1, by omega, by simp, by rw [map_snoc, ← List.append_assoc]; exact hT'⟩, by simp [intOf]; omega⟩
          · have hie : i = mm := by omega
            subst hie
            clear e1 e1' e2 e3 hm1
            go_wp2_with (fail)
            go_loopw [0, 203] (fun a iv wr => ∃ j : Nat, j ≤ zz ∧ iv = .int .i64 j ∧ Tx w0 wr a (sgn neg ++ (List.range i).map dg ++ List.replicate j 48) bd cs) (fun _ iv _ => zz - (intOf iv).toNat)
            case atStart => exact ⟨0, by omega, rfl, by simpa using hT⟩
            case round =>
              obtain ⟨j, hj, rfl, hT⟩ := hrel
              by_cases hlt : j < zz
              · have p1 : (0 : Int) ≤ (j : Int) := by omega
                have p2 : (j : Int) < (zz : Int) := by omega
                have hb := hT
                have hl : (sgn neg ++ (List.range i).map dg ++ List.replicate j 48).length + 1 ≤ 100000 := by simp [sgn]; split <;> simp <;> omega
                go_wp2_with (at_builtin; refine tx_append1 hb rfl _ _ rfl rfl rfl rfl hl ?_; intro v' w' hT')
                exact ⟨⟨j + 1, by omega, by simp, by rw [rep_snoc, ← List.append_assoc]; exact hT'⟩, by simp [intOf]; omega⟩
              · have hje : j = zz := by omega
                subst hje
                have p2 : ¬ (j : Int) < (j : Int) := by omega
                go_wp2_with (fail)
                go_meet
                case rel => rw [Hi.out, ← List.append_assoc]; exact hT
      · have Hi : Hid (ipart dg nd dp = [48]) := by
          show _ = _
          unfold ipart
          rw [if_neg hdp]
        have dd : decide ((0 : Int) < dp) = false := decide_eq_false hdp
        rw [dd]
        have hb := hcut
        have hl : (sgn neg).length + 1 ≤ 100000 := by simp [sgn]; split <;> simp
        go_wp2_with (at_builtin; refine tx_append1 hb rfl _ _ rfl rfl rfl rfl hl ?_; intro v' w' hT')
        go_meet
        case rel => rw [Hi.out]; exact hT'
    case rest =>
      obtain ⟨ip, hip⟩ : ∃ ip, sgn neg ++ ipart dg nd dp = ip := ⟨_, rfl⟩
      have Hl : Hid (ip.length ≤ 2000) := hip ▸ ip_len neg dg nd dp hd4 hp1
      have Hip := Lib.hid hip
      rw [hip] at hcut
      clear hip
      by_cases hlt : dp < nd
      · obtain ⟨Z, hZ⟩ : ∃ Z, (-dp).toNat = Z := ⟨_, rfl⟩
        obtain ⟨K, hK⟩ : ∃ K, dp.toNat = K := ⟨_, rfl⟩
        obtain ⟨M, hM⟩ : ∃ M, nd - K = M := ⟨_, rfl⟩
        have hprec := Hp.out
        have Hf : Hid (fpart dg nd dp = [46] ++ List.replicate Z 48 ++ (List.range M).map (fun i => dg (K + i))) := by
          show _ = _
          unfold fpart
          rw [if_pos hlt, hZ, hK, hM]
        have d1 : decide ((0 : Int) < prec) = true := decide_eq_true (by omega)
        have e1 : IntKind.i64.wrap (-dp) = -dp := wrapI (by omega) (by omega)
        have e2 : max (0 : Int) (-dp) = (Z : Int) := by omega
        have e2' : max (-dp) (0 : Int) = (Z : Int) := by omega
        have e3 : min prec (Z : Int) = (Z : Int) := by omega
        have e4 : IntKind.i64.wrap (dp + (Z : Int)) = (K : Int) := by rw [wrapI (by omega) (by omega)]; omega
        have e5 : IntKind.i64.wrap (prec - (Z : Int)) = (M : Int) := by rw [wrapI (by omega) (by omega)]; omega
        have e6 : IntKind.i64.wrap ((nd : Int) - (K : Int)) = (M : Int) := by rw [wrapI (by omega) (by omega)]; omega
        have e7 : max (0 : Int) (M : Int) = (M : Int) := by omega
        have e8 : min (M : Int) (M : Int) = (M : Int) := by omega
        have hZl : Z ≤ 1000 := by omega
        have hKM : K + M ≤ nd := by omega
        clear hprec hZ hK hM hlt
        go_wp2_with (at_builtin; refine tx_append1 hcut rfl _ _ rfl rfl rfl rfl (by have := Hl.out; omega) ?_; intro v' w' hT')
        go_loopw [0, 240] (fun a iv wr => ∃ i : Nat, i ≤ Z ∧ iv = .int .i64 i ∧ Tx w0 wr a (ip ++ [46] ++ List.replicate i 48) bd cs) (fun _ iv _ => Z - (intOf iv).toNat)
        case atStart => exact ⟨0, by omega, rfl, by simpa using hT'⟩
        case round =>
          obtain ⟨i, hi, rfl, hT⟩ := hrel
          by_cases hlt : i < Z
          · have p1 : (0 : Int) ≤ (i : Int) := by omega
            have p2 : (i : Int) < (Z : Int) := by omega
            have hb := hT
            have hl : (ip ++ [46] ++ List.replicate i 48).length + 1 ≤ 100000 := by have := Hl.out; simp; omega
            go_wp2_with (at_builtin; refine tx_append1 hb rfl _ _ rfl rfl rfl rfl hl ?_; intro v' w' hT')
            exact ⟨⟨i + 1, by omega, by simp, by rw [rep_snoc, ← List.append_assoc]; exact hT'⟩, by simp [intOf]; omega⟩
          · have hie : i = Z := by omega
            subst hie
            clear e1 e2 e2' e3 e4 e5
            go_wp2_with (fail)
            go_loopw [0, 247] (fun a iv wr => ∃ j : Nat, j ≤ M ∧ iv = .int .i64 j ∧ Tx w0 wr a (ip ++ [46] ++ List.replicate i 48 ++ (List.range j).map (fun q => dg (K + q))) bd cs) (fun _ iv _ => M - (intOf iv).toNat)
            case atStart => exact ⟨0, by omega, rfl, by simpa using hT⟩
            case round =>
              obtain ⟨j, hj, rfl, hT⟩ := hrel
              by_cases hlt : j < M
              · have p1 : (0 : Int) ≤ (j : Int) := by omega
                have p2 : (j : Int) < (M : Int) := by omega
                have q0 : IntKind.i64.wrap ((K : Int) + (j : Int)) = ((K + j : Nat) : Int) := by rw [wrapI (by omega) (by omega)]; omega
                have q1 : (0 : Int) ≤ (K : Int) + (j : Int) := by omega
                have q2 : (K : Int) + (j : Int) < (dl : Int) := by omega
                have q3 : K + j < dl := by omega
                have c1 : wr.cell? ⟨bd, K + j, none⟩ = some (.int .u8 (dg (K + j))) := hT.cell (Hdg.out (K + j) (by omega))
                have hb := hT
                have hl : (ip ++ [46] ++ List.replicate i 48 ++ (List.range j).map (fun q => dg (K + q))).length + 1 ≤ 100000 := by have := Hl.out; simp; omega
                go_wp2_with (at_builtin; refine tx_append1 hb rfl _ _ rfl rfl rfl rfl hl ?_; intro v' w' hT')
                exact ⟨⟨j + 1, by omega, by simp, by rw [map_snoc, ← List.append_assoc]; exact hT'⟩, by simp [intOf]; omega⟩
              · have hie : j = M := by omega
                subst hie
                go_wp2_with (fail)
                go_loopw [0, 261] (fun a iv wx => iv = .int .i64 0 ∧ Tx w0 wx a (ip ++ [46] ++ List.replicate i 48 ++ (List.range j).map (fun q => dg (K + q))) bd cs) (fun _ _ _ => 0)
                case atStart => exact ⟨rfl, hT⟩
                case round =>
                  obtain ⟨rfl, hT⟩ := hrel
                  go_wp2_with (fail)
                  go_ret
                  exact ⟨_, rfl, by rw [Hip.out, Hf.out, ← List.append_assoc, ← List.append_assoc]; exact hT⟩
      · have Hf : Hid (fpart dg nd dp = []) := by
          show _ = _
          unfold fpart
          rw [if_neg hlt]
        have hprec := Hp.out
        have d1 : decide ((0 : Int) < prec) = false := decide_eq_false (by omega)
        clear hprec hlt
        go_wp2_with (fail)
        go_ret
        exact ⟨_, rfl, by rw [Hip.out, Hf.out, List.append_nil]; exact hcut⟩
end Go.Proofs.YtcfknhboicomjaaGreatDoor.Ft
