/- The walk of the law FnCastUintText: an uint of any width is cast to its decimal digits, which are cast to that uint again. -/
import Derived.Test.YtigfkbeiaphjfaaGreatDoorUints
namespace Go.Proofs.YtigfkbeiaphjfaaGreatDoor.Ca
open Go.RowKit Go.Sort

theorem dig_nat (d : Nat) (h : d < 10) : (UInt8.ofNat (48 + d)).toNat = 48 + d := by
  rw [UInt8.toNat_ofNat']; omega
theorem decDigits_facts : ∀ n : Nat, (∀ c ∈ Lib.decDigits n, 48 ≤ c.toNat ∧ c.toNat ≤ 57) ∧ valN (Lib.decDigits n) = n ∧ (0 < n → ∃ c r, Lib.decDigits n = c :: r ∧ c ≠ 48) := by
  intro n
  induction n using Nat.strongRecOn with
  | _ n ih =>
    by_cases h : n < 10
    · have e : Lib.decDigits n = [UInt8.ofNat (48 + n)] := by rw [Lib.decDigits, dif_pos h]
      have hd := dig_nat n h
      rw [e]
      refine ⟨fun c hc => ?_, ?_, fun h0 => ⟨_, [], rfl, fun hc => ?_⟩⟩
      · rw [List.mem_singleton] at hc; subst hc; omega
      · show 0 * 10 + ((UInt8.ofNat (48 + n)).toNat - 48) = n
        rw [hd]; omega
      · have := congrArg UInt8.toNat hc
        rw [hd] at this
        have h48 : (48 : UInt8).toNat = 48 := rfl
        omega
    · have e : Lib.decDigits n = Lib.decDigits (n / 10) ++ [UInt8.ofNat (48 + n % 10)] := by rw [Lib.decDigits, dif_neg h]
      have hd := dig_nat (n % 10) (by omega)
      obtain ⟨h1, h2, h3⟩ := ih (n / 10) (by omega)
      rw [e]
      refine ⟨fun c hc => ?_, ?_, fun _ => ?_⟩
      · rcases List.mem_append.1 hc with hc | hc
        · exact h1 c hc
        · rw [List.mem_singleton] at hc; subst hc; omega
      · rw [valN_snoc, h2, hd]; omega
      · obtain ⟨c, r, h4, h5⟩ := h3 (by omega)
        exact ⟨c, r ++ [UInt8.ofNat (48 + n % 10)], by rw [h4]; rfl, h5⟩

theorem numText (n : Nat) (hn : n < 18446744073709551616) : NumText (ba (Lib.decDigits n)) n := by
  obtain ⟨h1, h2, h3⟩ := decDigits_facts n
  have hlen := decDigits_len n 20 (by omega) (by omega)
  have hpos : 0 < (Lib.decDigits n).length := by
    rw [Lib.decDigits]
    split <;> simp
  refine ⟨⟨by rw [ba_size]; exact hpos, by rw [ba_size]; omega, fun k hk => h1 _ (List.getElem_mem (by rw [ba_size] at hk; exact hk))⟩, hn, ?_⟩
  rcases Nat.eq_zero_or_pos n with h0 | h0
  · subst h0
    left
    refine ⟨?_, rfl⟩
    rw [Lib.decDigits, dif_pos (by omega)]
    rfl
  · right
    obtain ⟨c, r, h4, h5⟩ := h3 h0
    refine ⟨?_, h2⟩
    intro hc
    apply h5
    rw [← hc]
    show c = (Lib.decDigits n)[0]'hpos
    simp [h4]

/-- A kind of uints, and its width. -/
def KindW (c : Int) (m : Nat) : Prop := (c = 7 ∧ m = 18446744073709551616) ∨ (c = 8 ∧ m = 256) ∨ (c = 9 ∧ m = 65536) ∨ (c = 10 ∧ m = 4294967296) ∨ (c = 11 ∧ m = 18446744073709551616)

set_option maxRecDepth 100000 in
theorem castUint_any (c : Int) (m : Nat) (hc : KindW c m) (s : ByteArray) (n : Nat) (h : NumText s n) (hn : n < m) (w : World) :
    Calls Tryz.prog 14 #[.int .i64 c, anyV 14 0 0 0 s] w fun e w' => e = .returned (.tuple #[.int .u64 (n : Nat), .bool true]) ∧ Below w.heap.size w w' := by
  rcases hc with ⟨rfl, rfl⟩ | ⟨rfl, rfl⟩ | ⟨rfl, rfl⟩ | ⟨rfl, rfl⟩ | ⟨rfl, rfl⟩
  · have hv := fun W => To_U s n h hn W
    unfold anyV at hv ⊢
    go_enter Tryz.func14, Tryz.ntmps14
    go_wp2_with fail
    refine (hv _).mono ?_
    rintro e w1 ⟨rfl, hb⟩
    have hbx : Below w.heap.size w w1 := ((Below.refl _ w).alloc (Nat.le_refl _) _).trans (hb.mono (by simp))
    go_wp2
    go_ret2
    exact ⟨rfl, hbx⟩
  · have hv := fun W => To_U8 s n h hn W
    unfold anyV at hv ⊢
    go_enter Tryz.func14, Tryz.ntmps14
    go_wp2_with fail
    refine (hv _).mono ?_
    rintro e w1 ⟨rfl, hb⟩
    have hbx : Below w.heap.size w w1 := ((Below.refl _ w).alloc (Nat.le_refl _) _).trans (hb.mono (by simp))
    go_wp2
    go_ret2
    exact ⟨rfl, hbx⟩
  · have hv := fun W => To_U16 s n h hn W
    unfold anyV at hv ⊢
    go_enter Tryz.func14, Tryz.ntmps14
    go_wp2_with fail
    refine (hv _).mono ?_
    rintro e w1 ⟨rfl, hb⟩
    have hbx : Below w.heap.size w w1 := ((Below.refl _ w).alloc (Nat.le_refl _) _).trans (hb.mono (by simp))
    go_wp2
    go_ret2
    exact ⟨rfl, hbx⟩
  · have hv := fun W => To_U32 s n h hn W
    unfold anyV at hv ⊢
    go_enter Tryz.func14, Tryz.ntmps14
    go_wp2_with fail
    refine (hv _).mono ?_
    rintro e w1 ⟨rfl, hb⟩
    have hbx : Below w.heap.size w w1 := ((Below.refl _ w).alloc (Nat.le_refl _) _).trans (hb.mono (by simp))
    go_wp2
    go_ret2
    exact ⟨rfl, hbx⟩
  · have hv := fun W => To_U64 s n h hn W
    unfold anyV at hv ⊢
    go_enter Tryz.func14, Tryz.ntmps14
    go_wp2_with fail
    refine (hv _).mono ?_
    rintro e w1 ⟨rfl, hb⟩
    have hbx : Below w.heap.size w w1 := ((Below.refl _ w).alloc (Nat.le_refl _) _).trans (hb.mono (by simp))
    go_wp2
    go_ret2
    exact ⟨rfl, hbx⟩

theorem ToString_kind (c : Int) (m : Nat) (hc : KindW c m) (n : Nat) (hn : n < m) (w : World) (B : Nat) (ht : Tab B w) (hB : B ≤ w.heap.size) : Calls Tryz.prog 7 #[anyV c 0 (n : Nat) 0 ⟨#[]⟩] w fun e w' => e = .returned (.tuple #[.string (ba (Lib.decDigits n)), .bool true]) ∧ Below w.heap.size w w' := by
  rcases hc with ⟨rfl, rfl⟩ | ⟨rfl, rfl⟩ | ⟨rfl, rfl⟩ | ⟨rfl, rfl⟩ | ⟨rfl, rfl⟩
  · exact ToString_U n hn w B ht hB
  · exact ToString_U8 n hn w B ht hB
  · exact ToString_U16 n hn w B ht hB
  · exact ToString_U32 n hn w B ht hB
  · exact ToString_U64 n hn w B ht hB

set_option maxRecDepth 100000 in
theorem cut_any (c : Int) (m : Nat) (hc : KindW c m) (n : Nat) (hn : n < 18446744073709551616) (w : World) : Calls Tryz.prog 12 #[.int .i64 c, .int .u64 (n : Nat)] w fun e w' => e = .returned (.int .u64 ((n % m : Nat) : Int)) ∧ w' = w := by
  rcases hc with ⟨rfl, rfl⟩ | ⟨rfl, rfl⟩ | ⟨rfl, rfl⟩ | ⟨rfl, rfl⟩ | ⟨rfl, rfl⟩
  · have e : n % 18446744073709551616 = n := Nat.mod_eq_of_lt hn
    rw [e]
    go_enter Tryz.func12, Tryz.ntmps12
    go_wp2
    go_ret
    exact ⟨rfl, rfl⟩
  · have hwr : IntKind.u8.wrap (n : Int) = ((n % 256 : Nat) : Int) := by rw [IntKind.wrap_u8]; omega
    have hwr2 : IntKind.u64.wrap ((n % 256 : Nat) : Int) = ((n % 256 : Nat) : Int) := by rw [IntKind.wrap_u64]; omega
    generalize n % 256 = x at hwr hwr2
    go_enter Tryz.func12, Tryz.ntmps12
    go_wp2
    go_ret
    exact ⟨rfl, rfl⟩
  · have hwr : IntKind.u16.wrap (n : Int) = ((n % 65536 : Nat) : Int) := by rw [IntKind.wrap_u16]; omega
    have hwr2 : IntKind.u64.wrap ((n % 65536 : Nat) : Int) = ((n % 65536 : Nat) : Int) := by rw [IntKind.wrap_u64]; omega
    generalize n % 65536 = x at hwr hwr2
    go_enter Tryz.func12, Tryz.ntmps12
    go_wp2
    go_ret
    exact ⟨rfl, rfl⟩
  · have hwr : IntKind.u32.wrap (n : Int) = ((n % 4294967296 : Nat) : Int) := by rw [IntKind.wrap_u32]; omega
    have hwr2 : IntKind.u64.wrap ((n % 4294967296 : Nat) : Int) = ((n % 4294967296 : Nat) : Int) := by rw [IntKind.wrap_u64]; omega
    generalize n % 4294967296 = x at hwr hwr2
    go_enter Tryz.func12, Tryz.ntmps12
    go_wp2
    go_ret
    exact ⟨rfl, rfl⟩
  · have e : n % 18446744073709551616 = n := Nat.mod_eq_of_lt hn
    rw [e]
    go_enter Tryz.func12, Tryz.ntmps12
    go_wp2
    go_ret
    exact ⟨rfl, rfl⟩

set_option maxRecDepth 100000 in
theorem kind_any (k : Int) (w : World) : Calls Tryz.prog 11 #[.int .i64 k] w fun e w' => (∃ c m, KindW c m ∧ e = .returned (.int .i64 c)) ∧ w' = w := by
  go_enter Tryz.func11, Tryz.ntmps11
  go_wp2
  go_ret
  refine ⟨?_, rfl⟩
  have hq : 0 ≤ IntKind.u64.wrap k := by rw [IntKind.wrap_u64]; omega
  have hr0 : 0 ≤ (IntKind.u64.wrap k).tmod 5 ∧ (IntKind.u64.wrap k).tmod 5 < 5 := by rw [Int.tmod_eq_emod_of_nonneg hq]; omega
  show ∃ c m, KindW c m ∧ Ending.returned (.int .i64 (wrap64 (7 + wrap64 ((IntKind.u64.wrap k).tmod 5)))) = Ending.returned (.int .i64 c)
  generalize (IntKind.u64.wrap k).tmod 5 = r at hr0
  have h5 : r = 0 ∨ r = 1 ∨ r = 2 ∨ r = 3 ∨ r = 4 := by omega
  rcases h5 with rfl | rfl | rfl | rfl | rfl
  · exact ⟨7, _, .inl ⟨rfl, rfl⟩, by rw [show wrap64 (7 + wrap64 0) = 7 from by unfold wrap64; omega]⟩
  · exact ⟨8, _, .inr (.inl ⟨rfl, rfl⟩), by rw [show wrap64 (7 + wrap64 1) = 8 from by unfold wrap64; omega]⟩
  · exact ⟨9, _, .inr (.inr (.inl ⟨rfl, rfl⟩)), by rw [show wrap64 (7 + wrap64 2) = 9 from by unfold wrap64; omega]⟩
  · exact ⟨10, _, .inr (.inr (.inr (.inl ⟨rfl, rfl⟩))), by rw [show wrap64 (7 + wrap64 3) = 10 from by unfold wrap64; omega]⟩
  · exact ⟨11, _, .inr (.inr (.inr (.inr ⟨rfl, rfl⟩))), by rw [show wrap64 (7 + wrap64 4) = 11 from by unfold wrap64; omega]⟩

set_option maxRecDepth 100000 in
theorem FnCastUintText_any (k : Int) (n : Nat) (hn : n < 18446744073709551616) (w : World) (ht : Lib.TabIs Tryz.prog w "internal/strconv.uint64pow10" .u64 Lib.pow10Tab) :
    Calls Tryz.prog 5 #[.int .i64 k, .int .u64 (n : Nat)] w fun e w' => e = .returned (.bool true) ∧ Below w.heap.size w w' := by
  have HT := Lib.tabBelow_of_tabIs ht
  clear ht
  go_enter Tryz.func5, Tryz.ntmps5
  go_wp2_with fail
  refine (kind_any k w).mono ?_
  rintro e w1 ⟨⟨c, m, hc, rfl⟩, rfl⟩
  have hm : 0 < m ∧ m ≤ 18446744073709551616 := by rcases hc with ⟨_, rfl⟩ | ⟨_, rfl⟩ | ⟨_, rfl⟩ | ⟨_, rfl⟩ | ⟨_, rfl⟩ <;> omega
  have hcut := cut_any c m hc n hn w1
  have hxm : n % m < m := Nat.mod_lt _ hm.1
  generalize n % m = x at hcut hxm
  have hx64 : x < 18446744073709551616 := by omega
  have hs := fun W hW hB => ToString_kind c m hc x hxm W w1.heap.size hW hB
  have hnum := numText x hx64
  have hcu := fun W => castUint_any c m hc _ x hnum hxm W
  obtain ⟨kd, hkd⟩ := dec_uint x hx64
  obtain ⟨d, hd⟩ : ∃ d, ba (Lib.decDigits x) = d := ⟨_, rfl⟩
  rw [hd] at hs hcu hkd
  have hdec := fun W => PFnCastPointer.spec_CastDecimalUint.calls kd x d W hkd
  have td : (d.toList != d.toList) = false := by simp
  have te : (d.toList == d.toList) = true := by simp
  have tx : (((x : Nat) : Int) == ((x : Nat) : Int)) = true := by simp
  unfold anyV at hs hcu
  clear hnum hkd hd
  go_wp2_with fail
  refine hcut.mono ?_
  rintro e w2 ⟨rfl, rfl⟩
  go_wp2_with fail
  refine (hs _ HT (Nat.le_refl _)).mono ?_
  rintro e w3 ⟨rfl, hb3⟩
  go_wp2_with fail
  refine (hdec _).mono ?_
  rintro e w4 ⟨rfl, hb4⟩
  have hb14 := hb3.trans (hb4.mono hb3.size)
  go_wp2_with fail
  refine (hcu _).mono ?_
  rintro e w5 ⟨rfl, hb5⟩
  have hb15 := hb14.trans (hb5.mono hb14.size)
  by_cases hbig : 9223372036854775807 < x
  · have tb : decide ((9223372036854775807 : Int) < ((x : Nat) : Int)) = true := by simp; omega
    go_wp2
    go_ret
    exact ⟨rfl, hb15⟩
  · have tb : decide ((9223372036854775807 : Int) < ((x : Nat) : Int)) = false := by simp; omega
    go_wp2
    go_ret
    exact ⟨rfl, hb15⟩
end Go.Proofs.YtigfkbeiaphjfaaGreatDoor.Ca
