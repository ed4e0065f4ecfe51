/- The walks of impl.value at a float and at a text, of cast's ToFloat64E at a text, of cast's ToStringE at a float. -/
import Derived.Test.YtcfknhboicomjaaGreatDoorFat
import Derived.Test.YtcfknhboicomjaaGreatDoorAs
import Derived.StillTailTactics
namespace Go.Proofs.YtcfknhboicomjaaGreatDoor.Ft
open Go.RowKit Fy Ca
open Go.Proofs.YtcfknhboicomjaaGreatDoorW.PrintWords (nums own_string)

/-- An impl.Any of a kind, a float, a text. -/
def anyF (k : Int) (f : Nat) (s : ByteArray) : Value := .agg #[.int .i64 k, .int .i64 0, .int .u64 0, .float .f64 f, .string s, .slice none 0 0, .slice none 0 0]
set_option maxRecDepth 100000 in
theorem val_13 (f : Nat) (s : ByteArray) (w : World) : Calls Tryz.prog 20 #[anyF 13 f s] w fun e w' => e = .returned (.iface 25 (.float .f64 f)) ∧ Below w.heap.size w w' := by
  unfold anyF
  go_enter Tryz.func20, Tryz.ntmps20
  go_wp2
  go_ret
  exact ⟨rfl, (Below.refl _ w).alloc (Nat.le_refl _) _⟩
set_option maxRecDepth 100000 in
theorem val_14 (f : Nat) (s : ByteArray) (w : World) : Calls Tryz.prog 20 #[anyF 14 f s] w fun e w' => e = .returned (.iface 9 (.string s)) ∧ Below w.heap.size w w' := by
  unfold anyF
  go_enter Tryz.func20, Tryz.ntmps20
  go_wp2
  go_ret
  exact ⟨rfl, (Below.refl _ w).alloc (Nat.le_refl _) _⟩

set_option maxRecDepth 100000 in
theorem ind_9 (v : Value) (w : World) : Calls Tryz.prog 59 #[.iface 9 v] w fun e w' => e = .returned (.tuple #[.iface 9 v, .bool false]) ∧ w' = w := by
  have m1 := as9_99 v
  have m2 := as9_100 v
  go_enter Tryz.func59, Tryz.ntmps59
  go_wp2
  go_ret2
  exact ⟨rfl, rfl⟩
set_option maxRecDepth 100000 in
theorem numF_9 (s : ByteArray) (w : World) : Calls Tryz.prog 77 #[.iface 9 (.string s)] w fun e w' => e = .returned (.tuple #[.float .f64 0, .bool false]) ∧ w' = w := by
  have m0 := as9_25 (.string s)
  have m1 := as9_3 (.string s)
  have m2 := as9_71 (.string s)
  have m3 := as9_72 (.string s)
  have m4 := as9_21 (.string s)
  have m5 := as9_2 (.string s)
  have m6 := as9_73 (.string s)
  have m7 := as9_5 (.string s)
  have m8 := as9_74 (.string s)
  have m9 := as9_75 (.string s)
  have m10 := as9_24 (.string s)
  have m11 := as9_76 (.string s)
  have m12 := as9_4 (.string s)
  have m13 := as9_143 (.string s)
  have m14 := as9_144 (.string s)
  go_enter Tryz.func77, Tryz.ntmps77
  go_wp2_with fail
  refine (ind_9 _ _).mono ?_
  rintro e w1 ⟨rfl, rfl⟩
  go_wp2
  go_ret2
  exact ⟨rfl, rfl⟩

theorem as25_25' (v : Value) (w : World) : (Instr.typeAssert (.iface 25 v) 20 25 false).run Tryz.prog w = .ok v w := by
  simp [Instr.typeAssert, run_underlying Tryz.underlying25]
set_option maxRecDepth 100000 in
theorem par65 {s : ByteArray} {r : Nat} (h : Par s r) (w : World) (hv : FVars w) (ht : TenAt w) :
    Calls Tryz.prog 65 #[.string s] w fun e w' => e = .returned (.tuple #[.float .f64 r, .nilIface]) ∧ Below w.heap.size w w' := by
  have hp := par78 h w hv ht
  have m1 := as25_76 (.float .f64 0)
  have m2 := as25_25 (.float .f64 0)
  have m3 := as25_25' (.float .f64 r)
  clear h hv ht
  go_enter Tryz.func65, Tryz.ntmps65
  go_wp2_with (go_at_call 78; (with_reducible refine hp.mono ?_); rintro e w2 ⟨rfl, hb2⟩)
  go_ret2
  exact ⟨rfl, hb2⟩
set_option maxRecDepth 100000 in
theorem par64 {s : ByteArray} {r : Nat} (h0 : 0 < s.size) (h : Par s r) (w : World) (hv : FVars w) (ht : TenAt w) :
    Calls Tryz.prog 64 #[.iface 9 (.string s), .func (.func 65) #[] #[]] w fun e w' => e = .returned (.tuple #[.float .f64 r, .nilIface]) ∧ Below w.heap.size w w' := by
  have hp := par65 h w hv ht
  have m9 := as9_9 (.string s)
  have hn := fun W => numF_9 s W
  have hi := fun W => ind_9 (.string s) W
  have hemp := nonemp h0
  clear h hv ht
  go_enter Tryz.func64, Tryz.ntmps64
  go_wp2_with (first | (go_at_call 77; (with_reducible refine (hn _).mono ?_); rintro e w1 ⟨rfl, rfl⟩) | (go_at_call 59; (with_reducible refine (hi _).mono ?_); rintro e w1 ⟨rfl, rfl⟩) | (go_at_call 65; (with_reducible refine hp.mono ?_); rintro e w2 ⟨rfl, hb2⟩))
  go_ret2
  exact ⟨rfl, hb2⟩
set_option maxRecDepth 100000 in
theorem par29 {s : ByteArray} {r : Nat} (h0 : 0 < s.size) (h : Par s r) (w : World) (hv : FVars w) (ht : TenAt w) :
    Calls Tryz.prog 29 #[.iface 9 (.string s)] w fun e w' => e = .returned (.tuple #[.float .f64 r, .nilIface]) ∧ Below w.heap.size w w' := by
  have hp := par64 h0 h w hv ht
  clear h hv ht
  go_enter Tryz.func29, Tryz.ntmps29
  go_wp2_with (go_at_call 64; (with_reducible refine hp.mono ?_); rintro e w2 ⟨rfl, hb2⟩)
  go_ret2
  exact ⟨rfl, hb2⟩
set_option maxRecDepth 100000 in
theorem par17 {s : ByteArray} {r : Nat} (h0 : 0 < s.size) (h : Par s r) (w : World) (hv : FVars w) (ht : TenAt w) :
    Calls Tryz.prog 17 #[anyF 14 0 s] w fun e w' => e = .returned (.tuple #[.float .f64 r, .bool true]) ∧ Below w.heap.size w w' := by
  have hval := fun W => val_14 0 s W
  have hp := fun W hv ht => par29 h0 h W hv ht
  have HV := Lib.hid hv
  have HT := Lib.hid ht
  unfold anyF at hval ⊢
  clear h hv ht
  go_enter Tryz.func17, Tryz.ntmps17
  go_wp2_with (go_at_call 20; (with_reducible refine (hval _).mono ?_); rintro e w2 ⟨rfl, hb2⟩)
  have hbx : Below w.heap.size w w2 := ((Below.refl _ w).alloc (Nat.le_refl _) _).trans (hb2.mono (by simp))
  have hp2 := hp w2 (HV.out.below hbx) (HT.out.below hbx)
  refine hp2.mono ?_
  rintro e w3 ⟨rfl, hb3⟩
  have hb13 := hbx.trans (hb3.mono hbx.size)
  go_wp2
  go_quiet (fail)
  go_wp2
  go_ret2
  exact ⟨rfl, hb13.trans ⟨rfl, rfl, rfl, Nat.le_refl _, fun _ _ => rfl⟩⟩

/-- A float is written as a text of which this is true. -/
def Wri (B : Nat) (G : List Int → Prop) : Prop := ∀ w0 w v, Tx w0 w v [] 0 #[] → TenAt w → PowAt w →
  Calls Tryz.prog 84 #[v, .float .f64 B, .int .u8 102, .int .i64 (-1)] w fun e w' => ∃ v' bs, e = .returned v' ∧ G bs ∧ Tx w0 w' v' bs 0 #[]

set_option maxRecDepth 100000 in
theorem fmt73 {B : Nat} {G : List Int → Prop} (h : Wri B G) (w : World) (ht : TenAt w) (hp : PowAt w) :
    Calls Tryz.prog 73 #[.float .f64 B, .int .u8 102, .int .i64 (-1), .int .i64 64] w fun e w' => (∃ bs, e = .returned (.string (strOfNums bs)) ∧ G bs) ∧ Below w.heap.size w w' := by
  have HF := Lib.hid h
  have HT := Lib.hid ht
  have HP := Lib.hid hp
  obtain ⟨i0, hi, hz0, hz1, hz2⟩ := info5
  clear h ht hp
  go_enter Tryz.func73, Tryz.ntmps73
  go_wp2_with (at_make; refine wpList_make_own _ rfl _ _ 77 rfl w.heap.size 5 i0 (.int .u8 0) 1 Tryz.underlying77 hi hz0 hz1 .i64 .i64 24 24 rfl rfl rfl (by rw [hz2]; decide) (by unfold maxLen; decide) (Nat.le_refl _) ?_; intro w1 hown hgrow)
  have hb1 : Below w.heap.size w w1 := (Below.refl _ w).grown hgrow (Nat.le_refl _) (fun k hk => by cases hk)
  have hT1 : Tx w w1 (.slice (some ⟨w.heap.size, 0, none⟩) 0 24) [] 0 #[] := ⟨hown, hb1, .inl rfl⟩
  have hf := HF.out w w1 _ hT1 (HT.out.below hb1) (HP.out.below hb1)
  clear hown hgrow hT1 hi hz0 hz1 hz2
  go_wp2_with (go_at_call 84; (with_reducible refine hf.mono ?_); rintro e w2 ⟨v', bs, rfl, hG, hT2⟩; have hcv := own_string (P := Tryz.prog) (src := 77) (dst := 9) Tryz.underlying77 Tryz.underlying5 Tryz.underlying9 hT2.own)
  go_ret
  exact ⟨⟨bs, rfl, hG⟩, hT2.below⟩
set_option maxRecDepth 100000 in
theorem fmt55 {B : Nat} {G : List Int → Prop} (h : Wri B G) (w : World) (ht : TenAt w) (hp : PowAt w) :
    Calls Tryz.prog 55 #[.float .f64 B, .int .u8 102, .int .i64 (-1), .int .i64 64] w fun e w' => (∃ bs, e = .returned (.string (strOfNums bs)) ∧ G bs) ∧ Below w.heap.size w w' := by
  have hf := fmt73 h w ht hp
  clear h ht hp
  go_enter Tryz.func55, Tryz.ntmps55
  go_wp2_with (go_at_call 73; (with_reducible refine hf.mono ?_); rintro e w2 ⟨⟨bs, rfl, hG⟩, hb2⟩)
  go_ret
  exact ⟨⟨bs, rfl, hG⟩, hb2⟩
set_option maxRecDepth 100000 in
theorem str27 {B : Nat} {G : List Int → Prop} (h : Wri B G) (w : World) (ht : TenAt w) (hp : PowAt w) :
    Calls Tryz.prog 27 #[.iface 25 (.float .f64 B)] w fun e w' => (∃ bs, e = .returned (.tuple #[.string (strOfNums bs), .nilIface]) ∧ G bs) ∧ Below w.heap.size w w' := by
  have hf := fmt55 h w ht hp
  have m1 := as25_9 (.float .f64 B)
  have m2 := as25_4 (.float .f64 B)
  have m3 := as25_25 (.float .f64 B)
  clear h ht hp
  go_enter Tryz.func27, Tryz.ntmps27
  go_wp2_with (go_at_call 55; (with_reducible refine hf.mono ?_); rintro e w2 ⟨⟨bs, rfl, hG⟩, hb2⟩)
  go_ret2
  exact ⟨⟨bs, rfl, hG⟩, hb2⟩
set_option maxRecDepth 100000 in
theorem str14 {B : Nat} {G : List Int → Prop} (h : Wri B G) (w : World) (ht : TenAt w) (hp : PowAt w) :
    Calls Tryz.prog 14 #[anyF 13 B ⟨#[]⟩] w fun e w' => (∃ bs, e = .returned (.tuple #[.string (strOfNums bs), .bool true]) ∧ G bs) ∧ Below w.heap.size w w' := by
  have hval := fun W => val_13 B ⟨#[]⟩ W
  have hf := fun W ht hp => str27 h W ht hp
  have HT := Lib.hid ht
  have HP := Lib.hid hp
  unfold anyF at hval ⊢
  clear h ht hp
  go_enter Tryz.func14, Tryz.ntmps14
  go_wp2_with (go_at_call 20; (with_reducible refine (hval _).mono ?_); rintro e w2 ⟨rfl, hb2⟩)
  have hbx : Below w.heap.size w w2 := ((Below.refl _ w).alloc (Nat.le_refl _) _).trans (hb2.mono (by simp))
  have hf2 := hf w2 (HT.out.below hbx) (HP.out.below hbx)
  refine hf2.mono ?_
  rintro e w3 ⟨⟨bs, rfl, hG⟩, hb3⟩
  have hb13 := hbx.trans (hb3.mono hbx.size)
  go_wp2
  go_quiet (fail)
  go_wp2
  go_ret2
  exact ⟨⟨bs, rfl, hG⟩, hb13.trans ⟨rfl, rfl, rfl, Nat.le_refl _, fun _ _ => rfl⟩⟩
end Go.Proofs.YtcfknhboicomjaaGreatDoor.Ft
