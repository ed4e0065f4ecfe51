/- The walk of strconv.ftoa64 at 'f', the shortest text (printed by wip/fftoa.py). -/
import Derived.Test.YtcfknhboicomjaaGreatDoorFbits
import Derived.Deep.RegionLaw
namespace Go.Proofs.YtcfknhboicomjaaGreatDoor.Ft
open Go.RowKit Fy
open Go.Proofs.YtcfknhboicomjaaGreatDoorW.PrintWords (nums blk_set blk_cell blk_frozen blk_far blk_lt own_ne own_alloc blk_grown own_slice own_lt own_base print_append_str bytesOf)

theorem Tx.loose {w0 w : World} {v : Value} {bs : List Int} {bd : Nat} {cs : Array Value} (h : Tx w0 w v bs bd cs) : Tx w0 w v bs 0 #[] := ⟨h.own, h.below, .inl rfl⟩
theorem Tx.drewN {w0 w : World} {v : Value} {bs : List Int} {bd : Nat} {cs : Array Value} (h : Tx w0 w v bs bd cs) (n : Nat) : Tx w0 (w.drewN n) v bs bd cs :=
  ⟨h.own, ⟨h.below.os, h.below.tape, h.below.output, h.below.size, h.below.block⟩, h.dig⟩
theorem cell_lt {w : World} {a : Addr} {v : Value} (h : w.cell? a = some v) : a.block < w.heap.size := by
  rcases Nat.lt_or_ge a.block w.heap.size with h' | h'
  · exact h'
  · simp [World.cell?, Array.getElem?_eq_none h'] at h
theorem TenAt.below {w w' : World} (h : TenAt w) (hb : Below w.heap.size w w') : TenAt w' := fun p h0 h1 =>
  ⟨(hb.cell (cell_lt (h p h0 h1).1)).trans (h p h0 h1).1, (hb.cell (cell_lt (h p h0 h1).2)).trans (h p h0 h1).2⟩
theorem Tx.grown {w0 w w' : World} {v : Value} {bs : List Int} {bd : Nat} {cs : Array Value} (h : Tx w0 w v bs bd cs) (hb : Below w.heap.size w w') : Tx w0 w' v bs bd cs :=
  ⟨h.own.kept (row := none) ⟨hb.os, hb.tape, hb.output, hb.size, fun k hk _ => hb.block k hk⟩ (by cases v.ownBlock <;> simp), h.below.trans (hb.mono h.below.size), h.dig.imp id fun hd => (hb.block bd (blk_lt hd)).trans hd⟩
theorem pow_gn : Tryz.prog.globalNamed "internal/strconv.uint64pow10" = some 2 := by kernel_rfl
/-- The table of powers that numDigits reads. -/
def PowAt (w : World) : Prop := Lib.TabIs Tryz.prog w "internal/strconv.uint64pow10" .u64 Lib.pow10Tab
theorem PowAt.below {w w' : World} (h : PowAt w) (hb : Below w.heap.size w w') : PowAt w' := by
  unfold PowAt Lib.TabIs World.var? at h ⊢
  rw [pow_gn] at h ⊢
  simp only [Option.bind_some] at h ⊢
  have hlt : 2 < w.heap.size := by
    rcases Nat.lt_or_ge 2 w.heap.size with h' | h'
    · exact h'
    · rw [Array.getElem?_eq_none h'] at h; cases h
  rw [hb.block 2 hlt]
  exact h
def zeros32 : Array Value := #[.int .u8 0, .int .u8 0, .int .u8 0, .int .u8 0, .int .u8 0, .int .u8 0, .int .u8 0, .int .u8 0, .int .u8 0, .int .u8 0, .int .u8 0, .int .u8 0, .int .u8 0, .int .u8 0, .int .u8 0, .int .u8 0, .int .u8 0, .int .u8 0, .int .u8 0, .int .u8 0, .int .u8 0, .int .u8 0, .int .u8 0, .int .u8 0, .int .u8 0, .int .u8 0, .int .u8 0, .int .u8 0, .int .u8 0, .int .u8 0, .int .u8 0, .int .u8 0]
theorem zeros_get (j : Nat) (hj : j < 32) : zeros32[j]? = some (.int .u8 0) := by
  have : zeros32 = Array.replicate 32 (Value.int .u8 0) := rfl
  rw [this, Array.getElem?_replicate, if_pos hj]
theorem Tx.grownSome {w0 w w' : World} {v : Value} {bs : List Int} {bd : Nat} {cs cs' : Array Value} (h : Tx w0 w v bs 0 #[]) (hd : w.heap[bd]? = some (.cells cs 166 (0, 0))) (hbd : w0.heap.size ≤ bd) (hg : w.grownBy w' (some bd)) (hb : w'.heap[bd]? = some (.cells cs' 166 (0, 0))) : Tx w0 w' v bs bd cs' :=
  ⟨h.own.kept hg (.inr (own_ne h.own hd (by decide)).symm), h.below.grown hg h.below.size (fun k hk => by cases hk; exact hbd), .inr hb⟩
theorem info5' : (Tryz.prog.info? 5).map (fun i => (i.zero, i.size, i.bytes)) = some (some (.int .u8 0), 1, 1) := by kernel_rfl
theorem tx_append_str {ops : Array Oper} {rest : List Oper} {o : Oper} {a : Act} {Q : Exit → Act → World → Prop} {w0 w : World} {v : Value} {bs : List Int}
    (hT : Tx w0 w v bs 0 #[]) (s x : Operand) (hgd : o.guard = none) (ho : o.op = .call { callee := .builtin .append, args := #[s, x], argTypes := #[77, 9] }) (hs : a.eval s = v)
    (y : ByteArray) (hx : a.eval x = .string y) (hlen : bs.length + y.size ≤ 100000)
    (h : ∀ v' w', Tx w0 w' v' (bs ++ bytesOf y) 0 #[] → wpList Tryz.prog ops Q rest (a.put o.dst v') w') : wpList Tryz.prog ops Q (o :: rest) a w :=
  print_append_str w0.heap.size hgd s x 77 9 5 ho Tryz.underlying77 Tryz.underlying9 info5' v bs y hs hx hT.own hT.below hT.below.size (by omega) fun v1 w1 h1 h2 _ => h v1 w1 ⟨h1, h2, .inl rfl⟩

/-- The word's parts, as ftoa64 reads them. -/
structure Parts (B : Nat) (neg : Bool) (ex mt : Nat) : Prop where
  h64 : B < 18446744073709551616
  sg : ((B : Int) / 9223372036854775808 != 0) = neg
  ex : B / 4503599627370496 % 2048 = ex
  mt : B % 4503599627370496 = mt
set_option maxRecDepth 100000 in
set_option maxHeartbeats 4000000 in
theorem ftoa_nan (B : Nat) (neg : Bool) (ex mt : Nat) (hP : Parts B neg ex mt) (w0 w : World) (v : Value) (hT : Tx w0 w v [] 0 #[]) (hex : ex = 2047) (hmt : mt ≠ 0) :
    Calls Tryz.prog 84 #[v, .float .f64 B, .int .u8 102, .int .i64 (-1)] w fun e w' => ∃ v', e = .returned v' ∧ Tx w0 w' v' (bytesOf ⟨#[78, 97, 78]⟩) 0 #[] := by
  have f1 := hP.sg
  have f2 : bits .and .i64 ((B : Int) / 4503599627370496) 2047 = (ex : Int) := by rw [and_2047, ← hP.ex]; omega
  have f2w : IntKind.i64.wrap ((B : Int) / 4503599627370496) = (B : Int) / 4503599627370496 := by have := hP.h64; exact wrapI (by omega) (by omega)
  have f3 : bits .and .u64 (B : Int) 4503599627370495 = (mt : Int) := by rw [and_mant B hP.h64, hP.mt]
  have c97 := call97 B
  have g1 : ((ex : Int) == 2047) = true := by simp; omega
  have g2 : ((mt : Int) != 0) = true := by simp; omega
  have g3 : ¬ (mt = 0) := hmt
  clear hex hP
  go_enter Tryz.func84, Tryz.ntmps84
  go_wp2_with fail
  go_quiet (fail)
  go_wp2_with (at_builtin; refine tx_append_str (hT.drewN _) _ _ rfl rfl rfl _ rfl (by decide) ?_; intro v1 w1 hT1)
  go_ret
  exact ⟨_, rfl, hT1⟩
set_option maxRecDepth 100000 in
set_option maxHeartbeats 4000000 in
theorem ftoa_inf_p (B : Nat) (ex mt : Nat) (hP : Parts B false ex mt) (w0 w : World) (v : Value) (hT : Tx w0 w v [] 0 #[]) (hex : ex = 2047) (hmt : mt = 0) :
    Calls Tryz.prog 84 #[v, .float .f64 B, .int .u8 102, .int .i64 (-1)] w fun e w' => ∃ v', e = .returned v' ∧ Tx w0 w' v' (bytesOf ⟨#[43, 73, 110, 102]⟩) 0 #[] := by
  have f1 := hP.sg
  have f2 : bits .and .i64 ((B : Int) / 4503599627370496) 2047 = (ex : Int) := by rw [and_2047, ← hP.ex]; omega
  have f2w : IntKind.i64.wrap ((B : Int) / 4503599627370496) = (B : Int) / 4503599627370496 := by have := hP.h64; exact wrapI (by omega) (by omega)
  have f3 : bits .and .u64 (B : Int) 4503599627370495 = (mt : Int) := by rw [and_mant B hP.h64, hP.mt]
  have c97 := call97 B
  have g1 : ((ex : Int) == 2047) = true := by simp; omega
  subst hmt
  clear hex hP
  go_enter Tryz.func84, Tryz.ntmps84
  go_wp2_with fail
  go_quiet (fail)
  go_wp2_with (at_builtin; refine tx_append_str (hT.drewN _) _ _ rfl rfl rfl _ rfl (by decide) ?_; intro v1 w1 hT1)
  go_ret
  exact ⟨_, rfl, hT1⟩
set_option maxRecDepth 100000 in
set_option maxHeartbeats 4000000 in
theorem ftoa_inf_n (B : Nat) (ex mt : Nat) (hP : Parts B true ex mt) (w0 w : World) (v : Value) (hT : Tx w0 w v [] 0 #[]) (hex : ex = 2047) (hmt : mt = 0) :
    Calls Tryz.prog 84 #[v, .float .f64 B, .int .u8 102, .int .i64 (-1)] w fun e w' => ∃ v', e = .returned v' ∧ Tx w0 w' v' (bytesOf ⟨#[45, 73, 110, 102]⟩) 0 #[] := by
  have f1 := hP.sg
  have f2 : bits .and .i64 ((B : Int) / 4503599627370496) 2047 = (ex : Int) := by rw [and_2047, ← hP.ex]; omega
  have f2w : IntKind.i64.wrap ((B : Int) / 4503599627370496) = (B : Int) / 4503599627370496 := by have := hP.h64; exact wrapI (by omega) (by omega)
  have f3 : bits .and .u64 (B : Int) 4503599627370495 = (mt : Int) := by rw [and_mant B hP.h64, hP.mt]
  have c97 := call97 B
  have g1 : ((ex : Int) == 2047) = true := by simp; omega
  subst hmt
  clear hex hP
  go_enter Tryz.func84, Tryz.ntmps84
  go_wp2_with fail
  go_quiet (fail)
  go_wp2_with (at_builtin; refine tx_append_str (hT.drewN _) _ _ rfl rfl rfl _ rfl (by decide) ?_; intro v1 w1 hT1)
  go_ret
  exact ⟨_, rfl, hT1⟩
set_option maxRecDepth 100000 in
set_option maxHeartbeats 4000000 in
theorem ftoa_zero (B : Nat) (neg : Bool) (ex mt : Nat) (hP : Parts B neg ex mt) (w0 w : World) (v : Value) (hT : Tx w0 w v [] 0 #[]) (hex : ex = 0) (hmt : mt = 0) :
    Calls Tryz.prog 84 #[v, .float .f64 B, .int .u8 102, .int .i64 (-1)] w fun e w' => ∃ v', e = .returned v' ∧ Tx w0 w' v' ((if neg then [45] else []) ++ [48]) 0 #[] := by
  have f1 := hP.sg
  have f2 : bits .and .i64 ((B : Int) / 4503599627370496) 2047 = (ex : Int) := by rw [and_2047, ← hP.ex]; omega
  have f2w : IntKind.i64.wrap ((B : Int) / 4503599627370496) = (B : Int) / 4503599627370496 := by have := hP.h64; exact wrapI (by omega) (by omega)
  have f3 : bits .and .u64 (B : Int) 4503599627370495 = (mt : Int) := by rw [and_mant B hP.h64, hP.mt]
  have c97 := call97 B
  subst hmt hex
  clear hP
  cases neg
  · go_enter Tryz.func84, Tryz.ntmps84
    go_wp2_with fail
    go_quiet (fail)
    go_wp2_with (go_at_call 100; (with_reducible refine (fmt_zero false w0 _ v 0 #[] (hT.drewN _)).mono ?_); rintro e w1 ⟨v1, rfl, hT1⟩)
    go_ret
    exact ⟨_, rfl, hT1⟩
  · go_enter Tryz.func84, Tryz.ntmps84
    go_wp2_with fail
    go_quiet (fail)
    go_wp2_with (go_at_call 100; (with_reducible refine (fmt_zero true w0 _ v 0 #[] (hT.drewN _)).mono ?_); rintro e w1 ⟨v1, rfl, hT1⟩)
    go_ret
    exact ⟨_, rfl, hT1⟩
set_option maxRecDepth 100000 in
set_option maxHeartbeats 4000000 in
theorem ftoa_sub (B : Nat) (neg : Bool) (ex mt : Nat) (hP : Parts B neg ex mt) (w0 w : World) (v : Value) (hT : Tx w0 w v [] 0 #[]) (hex : ex = 0) (hmt : mt ≠ 0) (M : Nat) (T E : Int) (z : Nat) (hMm : M = mt) (hT14 : T = -1022) (hE : E = T - 52) (hz : z = 64 - Lib.bitLen M) (hM0 : M ≠ 0) (hM64 : M < 2 ^ 64) (hFlt : Flt M E z) (hten : TenAt w) (hpow : PowAt w) (d nd : Nat) (pe : Int) (hd : (shortF (M * 2 ^ z) (E - z)).1 = d) (hpe : (shortF (M * 2 ^ z) (E - z)).2 = pe) (hnd : Lib.nDigits d = nd) (hnd32 : nd ≤ 20) (hd0 : 1 ≤ d) (hd64 : d < 18446744073709551616) (hpe0 : -900 ≤ pe) (hpe1 : pe ≤ 900) :
    Calls Tryz.prog 84 #[v, .float .f64 B, .int .u8 102, .int .i64 (-1)] w fun e w' => ∃ v' k, e = .returned v' ∧ 1 ≤ k ∧ k ≤ nd ∧ d % 10 ^ (nd - k) = 0 ∧ Tx w0 w' v' (sgn neg ++ ipart (dgt d nd) k ((nd : Int) + pe) ++ fpart (dgt d nd) k ((nd : Int) + pe)) 0 #[] := by
  have f1 := hP.sg
  have f2 : bits .and .i64 ((B : Int) / 4503599627370496) 2047 = (ex : Int) := by rw [and_2047, ← hP.ex]; omega
  have f2w : IntKind.i64.wrap ((B : Int) / 4503599627370496) = (B : Int) / 4503599627370496 := by have := hP.h64; exact wrapI (by omega) (by omega)
  have f3 : bits .and .u64 (B : Int) 4503599627370495 = (mt : Int) := by rw [and_mant B hP.h64, hP.mt]
  have c97 := call97 B
  subst hT14
  have hb := bitLen_pos M hM0 hM64
  have hst := shl_top M hM0 hM64
  have hF := short_facts hFlt
  obtain ⟨bl, hbl⟩ : ∃ bl, Lib.bitLen M = bl := ⟨_, rfl⟩
  rw [hbl] at hb hz hst
  have hlen : ∀ w, Calls Tryz.prog 101 #[.int .u64 (M : Int)] w fun e w' => e = .returned (.int .i64 (bl : Nat)) ∧ w' = w := fun w => by
    have := Tryz.bits_Len64 (M : Int) w (by omega) (by have := hFlt.m1; omega)
    rw [Int.toNat_natCast, hbl] at this
    exact this
  obtain ⟨m, hm⟩ : ∃ m, M * 2 ^ z = m := ⟨_, rfl⟩
  obtain ⟨e, he⟩ : ∃ e, E - (z : Int) = e := ⟨_, rfl⟩
  rw [hm, he] at hF
  have s1 : IntKind.i64.wrap (64 - (bl : Int)) = (z : Int) := by rw [wrapI (by omega) (by omega)]; omega
  have s2 : IntKind.u64.wrap ((M : Int) * 2 ^ z) = (m : Int) := shl_nat M z m hm (by have := hF.m1; omega)
  have s3 : z ≤ 64 := by omega
  have s4 : (z : Int) ≤ 64 := by omega
  have hFe0 := hFlt.e0
  have hFe1 := hFlt.e1
  obtain ⟨e0, he0⟩ : ∃ e0, -1022 - (z : Int) = e0 := ⟨_, rfl⟩
  have s5 : IntKind.i64.wrap (-1022 - (z : Int)) = e0 := by rw [wrapI (by omega) (by omega)]; omega
  have s6 : IntKind.i64.wrap (e0 - 52) = e := by rw [wrapI (by omega) (by omega)]; omega
  have hsh := fun w ht => shortFloat_any hF w ht
  rw [hm, he] at hd hpe
  simp only [hd, hpe] at hsh
  have hsh' : ∀ nq, Calls Tryz.prog 109 #[.int .u64 (m : Int), .int .i64 e] ((w.drewN nq).alloc (.cells #[.int .u8 0, .int .u8 0, .int .u8 0, .int .u8 0, .int .u8 0, .int .u8 0, .int .u8 0, .int .u8 0, .int .u8 0, .int .u8 0, .int .u8 0, .int .u8 0, .int .u8 0, .int .u8 0, .int .u8 0, .int .u8 0, .int .u8 0, .int .u8 0, .int .u8 0, .int .u8 0, .int .u8 0, .int .u8 0, .int .u8 0, .int .u8 0, .int .u8 0, .int .u8 0, .int .u8 0, .int .u8 0, .int .u8 0, .int .u8 0, .int .u8 0, .int .u8 0] 166)) fun x w' => x = .returned (.tuple #[.int .u64 (d : Int), .int .i64 pe]) ∧ Below (w.heap.size + 1) ((w.drewN nq).alloc (.cells #[.int .u8 0, .int .u8 0, .int .u8 0, .int .u8 0, .int .u8 0, .int .u8 0, .int .u8 0, .int .u8 0, .int .u8 0, .int .u8 0, .int .u8 0, .int .u8 0, .int .u8 0, .int .u8 0, .int .u8 0, .int .u8 0, .int .u8 0, .int .u8 0, .int .u8 0, .int .u8 0, .int .u8 0, .int .u8 0, .int .u8 0, .int .u8 0, .int .u8 0, .int .u8 0, .int .u8 0, .int .u8 0, .int .u8 0, .int .u8 0, .int .u8 0, .int .u8 0] 166)) w' := fun nq =>
    (hsh ((w.drewN nq).alloc (.cells #[.int .u8 0, .int .u8 0, .int .u8 0, .int .u8 0, .int .u8 0, .int .u8 0, .int .u8 0, .int .u8 0, .int .u8 0, .int .u8 0, .int .u8 0, .int .u8 0, .int .u8 0, .int .u8 0, .int .u8 0, .int .u8 0, .int .u8 0, .int .u8 0, .int .u8 0, .int .u8 0, .int .u8 0, .int .u8 0, .int .u8 0, .int .u8 0, .int .u8 0, .int .u8 0, .int .u8 0, .int .u8 0, .int .u8 0, .int .u8 0, .int .u8 0, .int .u8 0] 166)) ((hten.drewN nq).below ((Below.refl _ _).alloc (Nat.le_refl _) _))).mono fun x w' h => ⟨h.1, h.2.mono (by simp)⟩
  have g1 : ¬ (mt = 0) := hmt
  subst hex
  subst hMm
  clear hsh
  clear hP hm he he0 hbl hz hE hst hb hd hpe hFe0 hFe1 hFlt
  go_enter Tryz.func84, Tryz.ntmps84
  go_wp2_with fail
  go_quiet (fail)
  go_wp2_with (first | (go_at_call 101; (with_reducible refine (hlen _).mono ?_); rintro e w1 ⟨rfl, rfl⟩) | (go_at_call 109; (with_reducible refine (hsh' _).mono ?_); rintro e w2 ⟨rfl, hb2⟩))
  have hbel : Below w.heap.size w w2 := ((show Below w.heap.size w (w.drewN nq) from ⟨rfl, rfl, rfl, Nat.le_refl _, fun _ _ => rfl⟩).alloc (Nat.le_refl _) _).trans (hb2.mono (Nat.le_succ _))
  have hblk : w2.drew.heap[w.heap.size]? = some (.cells zeros32 166 (0, 0)) := (hb2.block _ (Nat.lt_succ_self _)).trans (heap_alloc_new (w.drewN nq) (.cells zeros32 166))
  have hT2 : Tx w0 w2.drew v [] 0 #[] := (hT.grown hbel).drewN 1
  have hpow2 : PowAt w2.drew := hpow.below hbel.drew
  have h86 := Tryz.internal_strconv_numDigits d hd0 hd64 w2.drew hpow2
  have h103 := set_any w.heap.size nd 32 zeros32 d pe w2.drew hblk (fun j hj => zeros_get j (by omega)) hd0 hd64 hnd (by omega) (by omega) (by omega) (by omega)
  rw [hnd] at h86
  have hsz := hT.size
  obtain ⟨bd, hbd⟩ : ∃ bd, w.heap.size = bd := ⟨_, rfl⟩
  rw [hbd] at h103 hblk hsz ⊢
  clear hbel hpow2 hb2 hsh' hlen hten hT hpow
  go_region_law (first
    | (go_simp; go_at_call 86; (with_reducible refine h86.mono ?_); rintro e w3 ⟨rfl, rfl⟩)
    | (go_simp; go_at_call 103; (with_reducible refine h103.mono ?_); rintro e w3 ⟨k, cs', rfl, hk1, hk2, hk3, hblk3, hcs3, hg3⟩))
  have hT3 : Tx w0 w3 v [] bd cs' := hT2.grownSome hblk hsz hg3 hblk3
  obtain ⟨dp, hdp⟩ : ∃ dp : Int, (nd : Int) + pe = dp := ⟨_, rfl⟩
  obtain ⟨prec, hprec⟩ : ∃ prec : Int, max ((k : Int) - dp) 0 = prec := ⟨_, rfl⟩
  have r1 : IntKind.i64.wrap ((k : Int) - dp) = (k : Int) - dp := wrapI (by omega) (by omega)
  rw [hdp]
  have hfmt' : Calls Tryz.prog 100 #[v, .bool neg, .slice (some ⟨bd, 0, none⟩) 32 32, .int .i64 dp, .int .i64 k, .int .i64 prec, .int .u8 102, .bool true] w3 fun e w' => ∃ v', e = .returned v' ∧ Tx w0 w' v' (sgn neg ++ ipart (dgt d nd) k dp ++ fpart (dgt d nd) k dp) bd cs' := fmt_any neg w0 w3 v bd cs' (dgt d nd) k 32 32 dp prec hT3 (fun j hj => hcs3 j (by omega)) hk1 (by omega) (by omega) (by omega) (by omega) (by omega) hprec.symm
  have HK := Lib.hid (show 1 ≤ k ∧ k ≤ nd ∧ d % 10 ^ (nd - k) = 0 from ⟨hk1, hk2, hk3⟩)
  have HD := Lib.hid hdp
  clear hcs3 hT2 h103 h86 hblk hblk3 hg3 hdp hk1 hk2 hk3 hnd hd0 hd64 hpe0 hpe1 hT3
  have hprec2 : max (0 : Int) ((k : Int) - dp) = prec := by rw [← hprec]; exact Int.max_comm ..
  go_wp2_with (go_at_call 100; (with_reducible refine hfmt'.mono ?_); rintro e w4 ⟨v1, rfl, hT4⟩)
  go_ret
  exact ⟨_, k, rfl, HK.out.1, HK.out.2.1, HK.out.2.2, by rw [HD.out]; exact hT4.loose⟩
set_option maxRecDepth 100000 in
set_option maxHeartbeats 4000000 in
theorem ftoa_norm (B : Nat) (neg : Bool) (ex mt : Nat) (hP : Parts B neg ex mt) (w0 w : World) (v : Value) (hT : Tx w0 w v [] 0 #[]) (hex : ex ≠ 0) (hex2 : ex < 2047) (M : Nat) (T E : Int) (z : Nat) (hMm : M = 4503599627370496 + mt) (hT14 : T = (ex : Int) - 1023) (hE : E = T - 52) (hz : z = 64 - Lib.bitLen M) (hM0 : M ≠ 0) (hM64 : M < 2 ^ 64) (hFlt : Flt M E z) (hten : TenAt w) (hpow : PowAt w) (d nd : Nat) (pe : Int) (hd : (shortF (M * 2 ^ z) (E - z)).1 = d) (hpe : (shortF (M * 2 ^ z) (E - z)).2 = pe) (hnd : Lib.nDigits d = nd) (hnd32 : nd ≤ 20) (hd0 : 1 ≤ d) (hd64 : d < 18446744073709551616) (hpe0 : -900 ≤ pe) (hpe1 : pe ≤ 900) :
    Calls Tryz.prog 84 #[v, .float .f64 B, .int .u8 102, .int .i64 (-1)] w fun e w' => ∃ v' k, e = .returned v' ∧ 1 ≤ k ∧ k ≤ nd ∧ d % 10 ^ (nd - k) = 0 ∧ Tx w0 w' v' (sgn neg ++ ipart (dgt d nd) k ((nd : Int) + pe) ++ fpart (dgt d nd) k ((nd : Int) + pe)) 0 #[] := by
  have f1 := hP.sg
  have f2 : bits .and .i64 ((B : Int) / 4503599627370496) 2047 = (ex : Int) := by rw [and_2047, ← hP.ex]; omega
  have f2w : IntKind.i64.wrap ((B : Int) / 4503599627370496) = (B : Int) / 4503599627370496 := by have := hP.h64; exact wrapI (by omega) (by omega)
  have f3 : bits .and .u64 (B : Int) 4503599627370495 = (mt : Int) := by rw [and_mant B hP.h64, hP.mt]
  have c97 := call97 B
  have hb := bitLen_pos M hM0 hM64
  have hst := shl_top M hM0 hM64
  have hF := short_facts hFlt
  obtain ⟨bl, hbl⟩ : ∃ bl, Lib.bitLen M = bl := ⟨_, rfl⟩
  rw [hbl] at hb hz hst
  have hlen : ∀ w, Calls Tryz.prog 101 #[.int .u64 (M : Int)] w fun e w' => e = .returned (.int .i64 (bl : Nat)) ∧ w' = w := fun w => by
    have := Tryz.bits_Len64 (M : Int) w (by omega) (by have := hFlt.m1; omega)
    rw [Int.toNat_natCast, hbl] at this
    exact this
  obtain ⟨m, hm⟩ : ∃ m, M * 2 ^ z = m := ⟨_, rfl⟩
  obtain ⟨e, he⟩ : ∃ e, E - (z : Int) = e := ⟨_, rfl⟩
  rw [hm, he] at hF
  have s1 : IntKind.i64.wrap (64 - (bl : Int)) = (z : Int) := by rw [wrapI (by omega) (by omega)]; omega
  have s2 : IntKind.u64.wrap ((M : Int) * 2 ^ z) = (m : Int) := shl_nat M z m hm (by have := hF.m1; omega)
  have s3 : z ≤ 64 := by omega
  have s4 : (z : Int) ≤ 64 := by omega
  have hFe0 := hFlt.e0
  have hFe1 := hFlt.e1
  obtain ⟨e0, he0⟩ : ∃ e0, T - (z : Int) = e0 := ⟨_, rfl⟩
  have s5 : IntKind.i64.wrap (T - (z : Int)) = e0 := by rw [wrapI (by omega) (by omega)]; omega
  have s6 : IntKind.i64.wrap (e0 - 52) = e := by rw [wrapI (by omega) (by omega)]; omega
  have hsh := fun w ht => shortFloat_any hF w ht
  rw [hm, he] at hd hpe
  simp only [hd, hpe] at hsh
  have hsh' : ∀ nq, Calls Tryz.prog 109 #[.int .u64 (m : Int), .int .i64 e] ((w.drewN nq).alloc (.cells #[.int .u8 0, .int .u8 0, .int .u8 0, .int .u8 0, .int .u8 0, .int .u8 0, .int .u8 0, .int .u8 0, .int .u8 0, .int .u8 0, .int .u8 0, .int .u8 0, .int .u8 0, .int .u8 0, .int .u8 0, .int .u8 0, .int .u8 0, .int .u8 0, .int .u8 0, .int .u8 0, .int .u8 0, .int .u8 0, .int .u8 0, .int .u8 0, .int .u8 0, .int .u8 0, .int .u8 0, .int .u8 0, .int .u8 0, .int .u8 0, .int .u8 0, .int .u8 0] 166)) fun x w' => x = .returned (.tuple #[.int .u64 (d : Int), .int .i64 pe]) ∧ Below (w.heap.size + 1) ((w.drewN nq).alloc (.cells #[.int .u8 0, .int .u8 0, .int .u8 0, .int .u8 0, .int .u8 0, .int .u8 0, .int .u8 0, .int .u8 0, .int .u8 0, .int .u8 0, .int .u8 0, .int .u8 0, .int .u8 0, .int .u8 0, .int .u8 0, .int .u8 0, .int .u8 0, .int .u8 0, .int .u8 0, .int .u8 0, .int .u8 0, .int .u8 0, .int .u8 0, .int .u8 0, .int .u8 0, .int .u8 0, .int .u8 0, .int .u8 0, .int .u8 0, .int .u8 0, .int .u8 0, .int .u8 0] 166)) w' := fun nq =>
    (hsh ((w.drewN nq).alloc (.cells #[.int .u8 0, .int .u8 0, .int .u8 0, .int .u8 0, .int .u8 0, .int .u8 0, .int .u8 0, .int .u8 0, .int .u8 0, .int .u8 0, .int .u8 0, .int .u8 0, .int .u8 0, .int .u8 0, .int .u8 0, .int .u8 0, .int .u8 0, .int .u8 0, .int .u8 0, .int .u8 0, .int .u8 0, .int .u8 0, .int .u8 0, .int .u8 0, .int .u8 0, .int .u8 0, .int .u8 0, .int .u8 0, .int .u8 0, .int .u8 0, .int .u8 0, .int .u8 0] 166)) ((hten.drewN nq).below ((Below.refl _ _).alloc (Nat.le_refl _) _))).mono fun x w' h => ⟨h.1, h.2.mono (by simp)⟩
  have hmt52 : mt < 4503599627370496 := by have := hP.mt; omega
  have f4 : bits .or .u64 (mt : Int) 4503599627370496 = (M : Int) := by rw [or_hidden mt hmt52, hMm]
  have f5 : IntKind.i64.wrap ((ex : Int) + -1023) = T := by rw [wrapI (by omega) (by omega)]; omega
  have f6 : IntKind.i64.wrap ((ex : Int) - 1023) = T := by rw [wrapI (by omega) (by omega)]; omega
  have g1 : ¬ (M = 0) := hM0
  have g2 : ((ex : Int) == 2047) = false := by simp; omega
  have g3 : ((ex : Int) == 0) = false := by simp; omega
  have g3' : ¬ (ex = 0) := hex
  clear hmt52 hMm hT14 hex hex2
  clear hsh
  clear hP hm he he0 hbl hz hE hst hb hd hpe hFe0 hFe1 hFlt
  go_enter Tryz.func84, Tryz.ntmps84
  go_wp2_with fail
  go_quiet (fail)
  go_wp2_with (first | (go_at_call 101; (with_reducible refine (hlen _).mono ?_); rintro e w1 ⟨rfl, rfl⟩) | (go_at_call 109; (with_reducible refine (hsh' _).mono ?_); rintro e w2 ⟨rfl, hb2⟩))
  have hbel : Below w.heap.size w w2 := ((show Below w.heap.size w (w.drewN nq) from ⟨rfl, rfl, rfl, Nat.le_refl _, fun _ _ => rfl⟩).alloc (Nat.le_refl _) _).trans (hb2.mono (Nat.le_succ _))
  have hblk : w2.drew.heap[w.heap.size]? = some (.cells zeros32 166 (0, 0)) := (hb2.block _ (Nat.lt_succ_self _)).trans (heap_alloc_new (w.drewN nq) (.cells zeros32 166))
  have hT2 : Tx w0 w2.drew v [] 0 #[] := (hT.grown hbel).drewN 1
  have hpow2 : PowAt w2.drew := hpow.below hbel.drew
  have h86 := Tryz.internal_strconv_numDigits d hd0 hd64 w2.drew hpow2
  have h103 := set_any w.heap.size nd 32 zeros32 d pe w2.drew hblk (fun j hj => zeros_get j (by omega)) hd0 hd64 hnd (by omega) (by omega) (by omega) (by omega)
  rw [hnd] at h86
  have hsz := hT.size
  obtain ⟨bd, hbd⟩ : ∃ bd, w.heap.size = bd := ⟨_, rfl⟩
  rw [hbd] at h103 hblk hsz ⊢
  clear hbel hpow2 hb2 hsh' hlen hten hT hpow
  go_region_law (first
    | (go_simp; go_at_call 86; (with_reducible refine h86.mono ?_); rintro e w3 ⟨rfl, rfl⟩)
    | (go_simp; go_at_call 103; (with_reducible refine h103.mono ?_); rintro e w3 ⟨k, cs', rfl, hk1, hk2, hk3, hblk3, hcs3, hg3⟩))
  have hT3 : Tx w0 w3 v [] bd cs' := hT2.grownSome hblk hsz hg3 hblk3
  obtain ⟨dp, hdp⟩ : ∃ dp : Int, (nd : Int) + pe = dp := ⟨_, rfl⟩
  obtain ⟨prec, hprec⟩ : ∃ prec : Int, max ((k : Int) - dp) 0 = prec := ⟨_, rfl⟩
  have r1 : IntKind.i64.wrap ((k : Int) - dp) = (k : Int) - dp := wrapI (by omega) (by omega)
  rw [hdp]
  have hfmt' : Calls Tryz.prog 100 #[v, .bool neg, .slice (some ⟨bd, 0, none⟩) 32 32, .int .i64 dp, .int .i64 k, .int .i64 prec, .int .u8 102, .bool true] w3 fun e w' => ∃ v', e = .returned v' ∧ Tx w0 w' v' (sgn neg ++ ipart (dgt d nd) k dp ++ fpart (dgt d nd) k dp) bd cs' := fmt_any neg w0 w3 v bd cs' (dgt d nd) k 32 32 dp prec hT3 (fun j hj => hcs3 j (by omega)) hk1 (by omega) (by omega) (by omega) (by omega) (by omega) hprec.symm
  have HK := Lib.hid (show 1 ≤ k ∧ k ≤ nd ∧ d % 10 ^ (nd - k) = 0 from ⟨hk1, hk2, hk3⟩)
  have HD := Lib.hid hdp
  clear hcs3 hT2 h103 h86 hblk hblk3 hg3 hdp hk1 hk2 hk3 hnd hd0 hd64 hpe0 hpe1 hT3
  have hprec2 : max (0 : Int) ((k : Int) - dp) = prec := by rw [← hprec]; exact Int.max_comm ..
  go_wp2_with (go_at_call 100; (with_reducible refine hfmt'.mono ?_); rintro e w4 ⟨v1, rfl, hT4⟩)
  go_ret
  exact ⟨_, k, rfl, HK.out.1, HK.out.2.1, HK.out.2.2, by rw [HD.out]; exact hT4.loose⟩
end Go.Proofs.YtcfknhboicomjaaGreatDoor.Ft
