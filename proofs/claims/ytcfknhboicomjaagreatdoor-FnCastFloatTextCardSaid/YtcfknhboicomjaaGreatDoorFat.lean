/- The walks of strconv's atof64, parseFloatPrefix, ParseFloat, and of cast's ToFloat64E at a text. -/
import Derived.Test.YtcfknhboicomjaaGreatDoorFex
import Derived.Test.YtcfknhboicomjaaGreatDoorFrd
import Derived.Lib.IfaceNeq
namespace Go.Proofs.YtcfknhboicomjaaGreatDoor.Ft
open Go.RowKit Fy

/-- What special and readFloat answer at the text. -/
structure Reads (s : ByteArray) (M : Nat) (X : Int) (neg : Bool) : Prop where
  sp : ∀ w, Calls Tryz.prog 143 #[.string s] w fun e w' => e = .returned (.tuple #[.float .f64 0, .int .i64 0, .bool false]) ∧ w' = w
  rd : ∀ w, Calls Tryz.prog 144 #[.string s] w fun e w' => e = .returned (.tuple #[.int .u64 (M : Nat), .int .i64 X, .bool neg, .bool false, .bool false, .int .i64 s.size, .bool true]) ∧ w' = w

theorem sign_facts (neg : Bool) : IntKind.u64.wrap ((if neg then 1 else 0 : Int) * 9223372036854775808) = ((sbit neg : Nat) : Int) := by
  cases neg <;> decide
theorem sign_or (neg : Bool) : bits .or .u64 ((sbit neg : Nat) : Int) 0 = ((sbit neg : Nat) : Int) := by
  cases neg <;> decide

set_option maxRecDepth 100000 in
set_option maxHeartbeats 4000000 in
theorem atof_zero (s : ByteArray) (X : Int) (neg : Bool) (h : Reads s 0 X neg) (w : World) (hv : FVars w) :
    Calls Tryz.prog 138 #[.string s] w fun e w' => e = .returned (.tuple #[.float .f64 (sbit neg), .int .i64 s.size, .nilIface]) ∧ w' = w := by
  have hsp := h.sp
  have hrd := h.rd
  have ho := hv.opt
  have hs := sign_facts neg
  have hs0 := sign_or neg
  have hb := fun w => bool2_any neg w
  obtain ⟨g, hg⟩ : ∃ g : Int, (if neg then 1 else 0) = g := ⟨_, rfl⟩
  obtain ⟨sg, hsg⟩ : ∃ sg, sbit neg = sg := ⟨_, rfl⟩
  rw [hg] at hs
  simp only [hg] at hb
  rw [hsg] at hs hs0 ⊢
  have hc := call152 (sg : Int)
  obtain ⟨n, hn⟩ : ∃ n : Nat, s.size = n := ⟨_, rfl⟩
  rw [hn] at hrd ⊢
  clear hg hsg hn h hv
  go_enter Tryz.func138, Tryz.ntmps138
  go_wp2_with (first | (go_at_call 143; (with_reducible refine (hsp _).mono ?_); rintro e w1 ⟨rfl, rfl⟩) | (go_at_call 144; (with_reducible refine (hrd _).mono ?_); rintro e w1 ⟨rfl, rfl⟩) | (go_at_call 140; (with_reducible refine (hb _).mono ?_); rintro e w1 ⟨rfl, rfl⟩))
  go_ret3
  exact ⟨rfl, rfl⟩

set_option maxRecDepth 100000 in
set_option maxHeartbeats 4000000 in
theorem atof_exact (s : ByteArray) (M : Nat) (X : Int) (neg : Bool) (h : Reads s M X neg) (hM : 0 < M) (hX0 : -345 ≤ X) (hX1 : X ≤ 310) (r : Nat) (hx : ∀ w, FVars w → Calls Tryz.prog 153 #[.int .u64 (M : Int), .int .i64 X, .bool neg] w fun e w' => e = .returned (.tuple #[.float .f64 r, .bool true]) ∧ w' = w) (w : World) (hv : FVars w) :
    Calls Tryz.prog 138 #[.string s] w fun e w' => e = .returned (.tuple #[.float .f64 r, .int .i64 s.size, .nilIface]) ∧ w' = w := by
  have hsp := h.sp
  have hrd := h.rd
  have ho := hv.opt
  have hs := sign_facts neg
  have hs0 := sign_or neg
  have hb := fun w => bool2_any neg w
  obtain ⟨g, hg⟩ : ∃ g : Int, (if neg then 1 else 0) = g := ⟨_, rfl⟩
  rw [hg] at hs
  simp only [hg] at hb
  obtain ⟨n, hn⟩ : ∃ n : Nat, s.size = n := ⟨_, rfl⟩
  rw [hn] at hrd ⊢
  have g1 : ((M : Int) == 0) = false := beq_eq_false_iff_ne.2 (by omega)
  have g1' : ¬ M = 0 := by omega
  have g2 : decide (310 < X) = false := decide_eq_false (by omega)
  have g3 : decide (X < -345) = false := decide_eq_false (by omega)
  have hx := hx w hv
  obtain ⟨sg, hsg⟩ : ∃ sg, sbit neg = sg := ⟨_, rfl⟩
  rw [hsg] at hs hs0
  clear hg hsg hn h hv hM
  go_enter Tryz.func138, Tryz.ntmps138
  go_wp2_with (first | (go_at_call 143; (with_reducible refine (hsp _).mono ?_); rintro e w1 ⟨rfl, rfl⟩) | (go_at_call 144; (with_reducible refine (hrd _).mono ?_); rintro e w1 ⟨rfl, rfl⟩) | (go_at_call 140; (with_reducible refine (hb _).mono ?_); rintro e w1 ⟨rfl, rfl⟩) | (go_at_call 153; (with_reducible refine hx.mono ?_); rintro e w1 ⟨rfl, rfl⟩))
  go_ret3
  exact ⟨rfl, rfl⟩
set_option maxRecDepth 100000 in
set_option maxHeartbeats 4000000 in
theorem atof_parse (s : ByteArray) (M : Nat) (X : Int) (neg : Bool) (h : Reads s M X neg) (hM : 0 < M) (hX0 : -345 ≤ X) (hX1 : X ≤ 310) (r y : Nat) (hx : ∀ w, FVars w → Calls Tryz.prog 153 #[.int .u64 (M : Int), .int .i64 X, .bool neg] w fun e w' => e = .returned (.tuple #[.float .f64 y, .bool false]) ∧ w' = w)
    (hp : ∀ w, TenAt w → Calls Tryz.prog 154 #[.int .u64 (M : Int), .int .i64 X, .int .u64 ((sbit neg : Nat) : Int)] w fun e w' => e = .returned (.tuple #[.float .f64 r, .nilIface]) ∧ Below w.heap.size w w') (w : World) (hv : FVars w) (ht : TenAt w) :
    Calls Tryz.prog 138 #[.string s] w fun e w' => e = .returned (.tuple #[.float .f64 r, .int .i64 s.size, .nilIface]) ∧ Below w.heap.size w w' := by
  have hsp := h.sp
  have hrd := h.rd
  have ho := hv.opt
  have hs := sign_facts neg
  have hs0 := sign_or neg
  have hb := fun w => bool2_any neg w
  obtain ⟨g, hg⟩ : ∃ g : Int, (if neg then 1 else 0) = g := ⟨_, rfl⟩
  rw [hg] at hs
  simp only [hg] at hb
  obtain ⟨n, hn⟩ : ∃ n : Nat, s.size = n := ⟨_, rfl⟩
  rw [hn] at hrd ⊢
  have g1 : ((M : Int) == 0) = false := beq_eq_false_iff_ne.2 (by omega)
  have g1' : ¬ M = 0 := by omega
  have g2 : decide (310 < X) = false := decide_eq_false (by omega)
  have g3 : decide (X < -345) = false := decide_eq_false (by omega)
  have hx := hx w hv
  have hp := hp w ht
  obtain ⟨sg, hsg⟩ : ∃ sg, sbit neg = sg := ⟨_, rfl⟩
  rw [hsg] at hs hs0 hp
  clear hg hsg hn h hv hM ht
  go_enter Tryz.func138, Tryz.ntmps138
  go_wp2_with (first | (go_at_call 143; (with_reducible refine (hsp _).mono ?_); rintro e w1 ⟨rfl, rfl⟩) | (go_at_call 144; (with_reducible refine (hrd _).mono ?_); rintro e w1 ⟨rfl, rfl⟩) | (go_at_call 140; (with_reducible refine (hb _).mono ?_); rintro e w1 ⟨rfl, rfl⟩) | (go_at_call 153; (with_reducible refine hx.mono ?_); rintro e w1 ⟨rfl, rfl⟩) | (go_at_call 154; (with_reducible refine hp.mono ?_); rintro e w2 ⟨rfl, hb2⟩))
  go_ret3
  exact ⟨rfl, hb2⟩

/-- The text is parsed as the float of these bits. -/
def Par (s : ByteArray) (r : Nat) : Prop := ∀ w, FVars w → TenAt w → Calls Tryz.prog 138 #[.string s] w fun e w' => e = .returned (.tuple #[.float .f64 r, .int .i64 s.size, .nilIface]) ∧ Below w.heap.size w w'

set_option maxRecDepth 100000 in
theorem par113 {s : ByteArray} {r : Nat} (h : Par s r) (w : World) (hv : FVars w) (ht : TenAt w) :
    Calls Tryz.prog 113 #[.string s, .int .i64 64] w fun e w' => e = .returned (.tuple #[.float .f64 r, .int .i64 s.size, .nilIface]) ∧ Below w.heap.size w w' := by
  have hp := h w hv ht
  clear h hv ht
  go_enter Tryz.func113, Tryz.ntmps113
  go_wp2_with (go_at_call 138; (with_reducible refine hp.mono ?_); rintro e w2 ⟨rfl, hb2⟩)
  go_ret3
  exact ⟨rfl, hb2⟩
set_option maxRecDepth 100000 in
theorem par89 {s : ByteArray} {r : Nat} (h : Par s r) (w : World) (hv : FVars w) (ht : TenAt w) :
    Calls Tryz.prog 89 #[.string s, .int .i64 64] w fun e w' => e = .returned (.tuple #[.float .f64 r, .nilIface]) ∧ Below w.heap.size w w' := by
  have hp := par113 h w hv ht
  clear h hv ht
  go_enter Tryz.func89, Tryz.ntmps89
  go_wp2_with (go_at_call 113; (with_reducible refine hp.mono ?_); rintro e w2 ⟨rfl, hb2⟩)
  go_ret2
  exact ⟨rfl, hb2⟩
set_option maxRecDepth 100000 in
theorem par78 {s : ByteArray} {r : Nat} (h : Par s r) (w : World) (hv : FVars w) (ht : TenAt w) :
    Calls Tryz.prog 78 #[.string s, .int .i64 64] w fun e w' => e = .returned (.tuple #[.float .f64 r, .nilIface]) ∧ Below w.heap.size w w' := by
  have hp := par89 h w hv ht
  clear h hv ht
  go_enter Tryz.func78, Tryz.ntmps78
  go_wp2_with (go_at_call 89; (with_reducible refine hp.mono ?_); rintro e w2 ⟨rfl, hb2⟩)
  go_ret2
  exact ⟨rfl, hb2⟩
end Go.Proofs.YtcfknhboicomjaaGreatDoor.Ft
