/- cast's ToInt64E, ToIntE, ToInt64, ToInt at every plain value: what they answer hangs on the value alone. -/
import Derived.Test.YtcfknhboicomjaaGreatDoorCasts
namespace Go.Proofs.YtcfknhboicomjaaGreatDoor.Ca
open Go.RowKit Fl

/-- A value that is none of a slice, a map, a pointer: a text of at most 400 bytes, a float of which an int64 has the whole part. -/
inductive Plain : Value → Prop
  | nil : Plain .nilIface
  | k4 (b : Bool) : Plain (.iface 4 (.bool b))
  | k3 (x : Int) : Plain (.iface 3 (.int .i64 x))
  | k71 (x : Int) : Plain (.iface 71 (.int .i8 x))
  | k72 (x : Int) : Plain (.iface 72 (.int .i16 x))
  | k21 (x : Int) : Plain (.iface 21 (.int .i32 x))
  | k2 (x : Int) : Plain (.iface 2 (.int .i64 x))
  | k73 (x : Int) : Plain (.iface 73 (.int .u64 x))
  | k5 (x : Int) : Plain (.iface 5 (.int .u8 x))
  | k74 (x : Int) : Plain (.iface 74 (.int .u16 x))
  | k75 (x : Int) : Plain (.iface 75 (.int .u32 x))
  | k24 (x : Int) : Plain (.iface 24 (.int .u64 x))
  | k76 (r : Nat) (n : Int) (hn : floatToIntVal .f32 r .i64 = some n) : Plain (.iface 76 (.float .f32 r))
  | k25 (r : Nat) (n : Int) (hn : floatToIntVal .f64 r .i64 = some n) : Plain (.iface 25 (.float .f64 r))
  | k9 (s : ByteArray) (hs : s.size ≤ 400) : Plain (.iface 9 (.string s))

set_option maxRecDepth 100000 in
theorem errNew (s : ByteArray) (w : World) : Calls Tryz.prog 61 #[.string s] w fun e w' => (∃ p, e = .returned (.iface 138 p)) ∧ Below w.heap.size w w' := by
  go_enter Tryz.func61, Tryz.ntmps61
  go_wp2
  go_ret
  exact ⟨⟨_, rfl⟩, (Below.refl _ _).alloc (Nat.le_refl _) _⟩

def CastL (v : Value) (r : Option Int) : Prop := ∀ w, ErrVars w → Calls Tryz.prog 19 #[v] w fun e w' => (∃ u, e = .returned u ∧ Ends r u) ∧ Below w.heap.size w w'

set_option maxRecDepth 100000 in
theorem castL_num (v : Value) (y : Int) (h : NumL v y) : CastL v (some y) := fun w _ => by
  go_enter Tryz.func19, Tryz.ntmps19
  go_wp2_with fail
  refine (numEL_of v y h _ _).mono ?_
  rintro e w1 ⟨rfl, rfl⟩
  go_wp2
  go_ret2
  exact ⟨⟨_, rfl, rfl⟩, Below.refl _ _⟩

set_option maxRecDepth 100000 in
theorem numEL_str (s : ByteArray) (hs : s.size ≤ 400) : ∃ r : Option Int, ∀ w, ErrVars w → Calls Tryz.prog 31 #[.iface 9 (.string s), .func (.func 32) #[] #[]] w fun e w' => (∃ u, e = .returned u ∧ Ends r u) ∧ Below w.heap.size w w' := by
  have m9 := as9_9 (.string s)
  have hn := fun W => numL_9 s W
  have hi := fun W => indirect_9 (.string s) W
  by_cases h0 : 0 < s.size
  · have hemp := nonempty h0
    obtain ⟨r, hP⟩ := parseL_any s hs
    cases r with
    | none =>
      refine ⟨none, fun w hE => ?_⟩
      have HE := Lib.hid hE
      clear hE
      have HP := Lib.hid hP
      clear hP
      go_enter Tryz.func31, Tryz.ntmps31
      go_wp2_with (first | (go_at_call 66; refine (hn _).mono ?_; rintro e w1 ⟨rfl, rfl⟩) | (go_at_call 59; refine (hi _).mono ?_; rintro e w1 ⟨rfl, rfl⟩) | (go_at_call 32; refine (HP.out _ HE.out).mono ?_; rintro e w2 ⟨⟨v, rfl, y, ty, p, rfl⟩, hb2⟩))
      go_wp2_with (go_at_call 61; refine (errNew _ _).mono ?_; rintro e w3 ⟨⟨p3, rfl⟩, hb3⟩)
      go_wp2
      go_ret2
      exact ⟨⟨_, rfl, _, _, _, rfl⟩, hb2.trans (hb3.mono hb2.size)⟩
    | some x =>
      refine ⟨some x, fun w hE => ?_⟩
      have HE := Lib.hid hE
      clear hE
      have HP := Lib.hid hP
      clear hP
      go_enter Tryz.func31, Tryz.ntmps31
      go_wp2_with (first | (go_at_call 66; refine (hn _).mono ?_; rintro e w1 ⟨rfl, rfl⟩) | (go_at_call 59; refine (hi _).mono ?_; rintro e w1 ⟨rfl, rfl⟩) | (go_at_call 32; refine (HP.out _ HE.out).mono ?_; rintro e w2 ⟨⟨v, rfl, rfl⟩, hb2⟩))
      go_wp2
      go_ret2
      exact ⟨⟨_, rfl, rfl⟩, hb2⟩
  · have he : s = ⟨#[]⟩ := ByteArray.ext (Array.eq_empty_of_size_eq_zero (by have : s.size = s.data.size := rfl; omega))
    subst he
    refine ⟨some 0, fun w _ => ?_⟩
    go_enter Tryz.func31, Tryz.ntmps31
    go_wp2_with (first | (go_at_call 66; refine (hn _).mono ?_; rintro e w1 ⟨rfl, rfl⟩) | (go_at_call 59; refine (hi _).mono ?_; rintro e w1 ⟨rfl, rfl⟩))
    go_wp2
    go_ret2
    exact ⟨⟨_, rfl, rfl⟩, Below.refl _ _⟩

set_option maxRecDepth 100000 in
theorem castL_str (s : ByteArray) (hs : s.size ≤ 400) : ∃ r, CastL (.iface 9 (.string s)) r := by
  obtain ⟨r, hr⟩ := numEL_str s hs
  refine ⟨r, fun w hE => ?_⟩
  have HE := Lib.hid hE
  clear hE
  have HR := Lib.hid hr
  clear hr
  go_enter Tryz.func19, Tryz.ntmps19
  go_wp2_with fail
  refine (HR.out _ HE.out).mono ?_
  rintro e w1 ⟨⟨u, rfl, hu⟩, hb⟩
  cases r with
  | none =>
    obtain ⟨y, ty, p, rfl⟩ := hu
    go_wp2
    go_ret2
    exact ⟨⟨_, rfl, _, _, _, rfl⟩, hb⟩
  | some x =>
    obtain rfl : u = _ := hu
    go_wp2
    go_ret2
    exact ⟨⟨_, rfl, rfl⟩, hb⟩

theorem castL_any (v : Value) (h : Plain v) : ∃ r, CastL v r := by
  cases h with
  | nil => exact ⟨_, castL_num _ _ (numL_0)⟩
  | k4 b => exact ⟨_, castL_num _ _ (numL_4 b)⟩
  | k3 x => exact ⟨_, castL_num _ _ (numL_3 x)⟩
  | k71 x => exact ⟨_, castL_num _ _ (numL_71 x)⟩
  | k72 x => exact ⟨_, castL_num _ _ (numL_72 x)⟩
  | k21 x => exact ⟨_, castL_num _ _ (numL_21 x)⟩
  | k2 x => exact ⟨_, castL_num _ _ (numL_2 x)⟩
  | k73 x => exact ⟨_, castL_num _ _ (numL_73 x)⟩
  | k5 x => exact ⟨_, castL_num _ _ (numL_5 x)⟩
  | k74 x => exact ⟨_, castL_num _ _ (numL_74 x)⟩
  | k75 x => exact ⟨_, castL_num _ _ (numL_75 x)⟩
  | k24 x => exact ⟨_, castL_num _ _ (numL_24 x)⟩
  | k76 r n hn => exact ⟨_, castL_num _ _ (numL_76 r n hn)⟩
  | k25 r n hn => exact ⟨_, castL_num _ _ (numL_25 r n hn)⟩
  | k9 s hs => exact castL_str s hs

set_option maxRecDepth 100000 in
/-- The form without an error, where there is none. -/
theorem bareL (v : Value) (y : Int) (h : CastL v (some y)) (w : World) (hE : ErrVars w) : Calls Tryz.prog 50 #[v] w fun e w' => e = .returned (.int .i64 y) ∧ Below w.heap.size w w' := by
  have HE := Lib.hid hE
  clear hE
  unfold CastL at h
  have HR := Lib.hid h
  clear h
  go_enter Tryz.func50, Tryz.ntmps50
  go_wp2_with fail
  refine (HR.out _ HE.out).mono ?_
  rintro e w1 ⟨⟨u, rfl, rfl⟩, hb⟩
  go_wp2
  go_ret
  exact ⟨rfl, hb⟩

def CastI (v : Value) (r : Option Int) : Prop := ∀ w, ErrVars w → Calls Tryz.prog 22 #[v] w fun e w' => (∃ u, e = .returned u ∧ Ends r u) ∧ Below w.heap.size w w'

set_option maxRecDepth 100000 in
theorem castI_num (v : Value) (y : Int) (h : NumI v y) : CastI v (some y) := fun w _ => by
  go_enter Tryz.func22, Tryz.ntmps22
  go_wp2_with fail
  refine (numEI_of v y h _ _).mono ?_
  rintro e w1 ⟨rfl, rfl⟩
  go_wp2
  go_ret2
  exact ⟨⟨_, rfl, rfl⟩, Below.refl _ _⟩

set_option maxRecDepth 100000 in
theorem numEI_str (s : ByteArray) (hs : s.size ≤ 400) : ∃ r : Option Int, ∀ w, ErrVars w → Calls Tryz.prog 51 #[.iface 9 (.string s), .func (.func 52) #[] #[]] w fun e w' => (∃ u, e = .returned u ∧ Ends r u) ∧ Below w.heap.size w w' := by
  have m9 := as9_9 (.string s)
  have hn := fun W => numI_9 s W
  have hi := fun W => indirect_9 (.string s) W
  by_cases h0 : 0 < s.size
  · have hemp := nonempty h0
    obtain ⟨r, hP⟩ := parseI_any s hs
    cases r with
    | none =>
      refine ⟨none, fun w hE => ?_⟩
      have HE := Lib.hid hE
      clear hE
      have HP := Lib.hid hP
      clear hP
      go_enter Tryz.func51, Tryz.ntmps51
      go_wp2_with (first | (go_at_call 71; refine (hn _).mono ?_; rintro e w1 ⟨rfl, rfl⟩) | (go_at_call 59; refine (hi _).mono ?_; rintro e w1 ⟨rfl, rfl⟩) | (go_at_call 52; refine (HP.out _ HE.out).mono ?_; rintro e w2 ⟨⟨v, rfl, y, ty, p, rfl⟩, hb2⟩))
      go_wp2_with (go_at_call 61; refine (errNew _ _).mono ?_; rintro e w3 ⟨⟨p3, rfl⟩, hb3⟩)
      go_wp2
      go_ret2
      exact ⟨⟨_, rfl, _, _, _, rfl⟩, hb2.trans (hb3.mono hb2.size)⟩
    | some x =>
      refine ⟨some x, fun w hE => ?_⟩
      have HE := Lib.hid hE
      clear hE
      have HP := Lib.hid hP
      clear hP
      go_enter Tryz.func51, Tryz.ntmps51
      go_wp2_with (first | (go_at_call 71; refine (hn _).mono ?_; rintro e w1 ⟨rfl, rfl⟩) | (go_at_call 59; refine (hi _).mono ?_; rintro e w1 ⟨rfl, rfl⟩) | (go_at_call 52; refine (HP.out _ HE.out).mono ?_; rintro e w2 ⟨⟨v, rfl, rfl⟩, hb2⟩))
      go_wp2
      go_ret2
      exact ⟨⟨_, rfl, rfl⟩, hb2⟩
  · have he : s = ⟨#[]⟩ := ByteArray.ext (Array.eq_empty_of_size_eq_zero (by have : s.size = s.data.size := rfl; omega))
    subst he
    refine ⟨some 0, fun w _ => ?_⟩
    go_enter Tryz.func51, Tryz.ntmps51
    go_wp2_with (first | (go_at_call 71; refine (hn _).mono ?_; rintro e w1 ⟨rfl, rfl⟩) | (go_at_call 59; refine (hi _).mono ?_; rintro e w1 ⟨rfl, rfl⟩))
    go_wp2
    go_ret2
    exact ⟨⟨_, rfl, rfl⟩, Below.refl _ _⟩

set_option maxRecDepth 100000 in
theorem castI_str (s : ByteArray) (hs : s.size ≤ 400) : ∃ r, CastI (.iface 9 (.string s)) r := by
  obtain ⟨r, hr⟩ := numEI_str s hs
  refine ⟨r, fun w hE => ?_⟩
  have HE := Lib.hid hE
  clear hE
  have HR := Lib.hid hr
  clear hr
  go_enter Tryz.func22, Tryz.ntmps22
  go_wp2_with fail
  refine (HR.out _ HE.out).mono ?_
  rintro e w1 ⟨⟨u, rfl, hu⟩, hb⟩
  cases r with
  | none =>
    obtain ⟨y, ty, p, rfl⟩ := hu
    go_wp2
    go_ret2
    exact ⟨⟨_, rfl, _, _, _, rfl⟩, hb⟩
  | some x =>
    obtain rfl : u = _ := hu
    go_wp2
    go_ret2
    exact ⟨⟨_, rfl, rfl⟩, hb⟩

theorem castI_any (v : Value) (h : Plain v) : ∃ r, CastI v r := by
  cases h with
  | nil => exact ⟨_, castI_num _ _ (numI_0)⟩
  | k4 b => exact ⟨_, castI_num _ _ (numI_4 b)⟩
  | k3 x => exact ⟨_, castI_num _ _ (numI_3 x)⟩
  | k71 x => exact ⟨_, castI_num _ _ (numI_71 x)⟩
  | k72 x => exact ⟨_, castI_num _ _ (numI_72 x)⟩
  | k21 x => exact ⟨_, castI_num _ _ (numI_21 x)⟩
  | k2 x => exact ⟨_, castI_num _ _ (numI_2 x)⟩
  | k73 x => exact ⟨_, castI_num _ _ (numI_73 x)⟩
  | k5 x => exact ⟨_, castI_num _ _ (numI_5 x)⟩
  | k74 x => exact ⟨_, castI_num _ _ (numI_74 x)⟩
  | k75 x => exact ⟨_, castI_num _ _ (numI_75 x)⟩
  | k24 x => exact ⟨_, castI_num _ _ (numI_24 x)⟩
  | k76 r n hn => exact ⟨_, castI_num _ _ (numI_76 r n hn)⟩
  | k25 r n hn => exact ⟨_, castI_num _ _ (numI_25 r n hn)⟩
  | k9 s hs => exact castI_str s hs

set_option maxRecDepth 100000 in
/-- The form without an error, where there is none. -/
theorem bareI (v : Value) (y : Int) (h : CastI v (some y)) (w : World) (hE : ErrVars w) : Calls Tryz.prog 26 #[v] w fun e w' => e = .returned (.int .i64 y) ∧ Below w.heap.size w w' := by
  have HE := Lib.hid hE
  clear hE
  unfold CastI at h
  have HR := Lib.hid h
  clear h
  go_enter Tryz.func26, Tryz.ntmps26
  go_wp2_with fail
  refine (HR.out _ HE.out).mono ?_
  rintro e w1 ⟨⟨u, rfl, rfl⟩, hb⟩
  go_wp2
  go_ret
  exact ⟨rfl, hb⟩
end Go.Proofs.YtcfknhboicomjaaGreatDoor.Ca
