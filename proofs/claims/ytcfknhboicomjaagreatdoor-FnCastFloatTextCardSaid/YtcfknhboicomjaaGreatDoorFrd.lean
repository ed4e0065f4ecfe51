/- The walks of strconv's special and readFloat at a text of digits and at most one dot, perhaps behind a minus. -/
import Derived.Test.YtcfknhboicomjaaGreatDoorTxt
import Derived.Laws.BytesArg
import Derived.Laws.Strings3
import Derived.WalkMore
import Derived.Handy
import Derived.WalkLawsBesides
namespace Go.Proofs.YtcfknhboicomjaaGreatDoor.Ft
open Go.RowKit Fy

theorem results_tmp7 {fn : Func} {a b c d e f g : Tmp} (h : fn.results = #[.tmp a, .tmp b, .tmp c, .tmp d, .tmp e, .tmp f, .tmp g]) (tmps : Array Value) (P : Program) (w : World) :
    (results fn tmps).run P w = .ok (.tuple #[tmps.getD a undef, tmps.getD b undef, tmps.getD c undef, tmps.getD d undef, tmps.getD e undef, tmps.getD f undef, tmps.getD g undef]) w := by
  simp [results, h]

theorem nonemp {s : ByteArray} (h : 0 < s.size) : s.toList.isEmpty = false := by
  rw [← decide_eq_emptyBytes]
  exact decide_eq_false (fun e => by rw [e] at h; exact absurd h (by decide))
/-- The text's bytes. -/
structure Bys (s : ByteArray) (l : List Int) : Prop where
  size : s.size = l.length
  get : ∀ i (h : i < s.size), ((s[i]'h).toNat : Int) = l.getD i 0

set_option maxRecDepth 100000 in
theorem lower46 (w : World) : Calls Tryz.prog 114 #[.int .u8 46] w fun e w' => e = .returned (.int .u8 46) ∧ w' = w := by
  have h : bits .or .u8 46 32 = 46 := by decide
  go_enter Tryz.func114, Tryz.ntmps114
  go_wp2
  go_ret
  exact ⟨rfl, rfl⟩

set_option maxRecDepth 100000 in
theorem prefix_none (t : ByteArray) (c : Int) (h0 : 0 < t.size) (hc : ((t[0]'h0).toNat : Int) = c) (hc1 : c ≤ 57) (w : World) :
    Calls Tryz.prog 155 #[.string t, .string ⟨#[105, 110, 102, 105, 110, 105, 116, 121]⟩] w fun e w' => e = .returned (.int .i64 0) ∧ w' = w := by
  obtain ⟨m, hm⟩ : ∃ m : Nat, min 8 (t.size : Int) = (m : Int) := ⟨min 8 t.size, by omega⟩
  have hm2 : min (t.size : Int) 8 = (m : Int) := by rw [← hm]; exact Int.min_comm ..
  have hm0 : (0 : Int) < (m : Int) := by omega
  have hm1 : 0 < m := by omega
  have g1 : decide (65 ≤ c) = false := decide_eq_false (by omega)
  have g2 : (c != 105) = true := by simp; omega
  have hk : (((⟨#[105, 110, 102, 105, 110, 105, 116, 121]⟩ : ByteArray)[0]'(by decide)).toNat : Int) = 105 := by decide
  have g3 : ¬ c = 105 := by omega
  clear hc1
  go_enter Tryz.func155, Tryz.ntmps155
  go_wp2
  go_loop [6] (fun iv => iv = .int .i64 0) (fun _ => 0)
  case atStart => rfl
  case round =>
    subst hrel
    go_wp2
    go_ret
    exact ⟨rfl, rfl⟩

set_option maxRecDepth 100000 in
theorem special_dig (s : ByteArray) (c : Int) (h0 : 0 < s.size) (hc : ((s[0]'h0).toNat : Int) = c) (hc0 : 48 ≤ c) (hc1 : c ≤ 57) (w : World) :
    Calls Tryz.prog 143 #[.string s] w fun e w' => e = .returned (.tuple #[.float .f64 0, .int .i64 0, .bool false]) ∧ w' = w := by
  have hemp := nonemp h0
  have n1 : ((s.size : Int) == 0) = false := beq_eq_false_iff_ne.2 (by omega)
  have g1 : (c == 43) = false := by simp; omega
  have g2 : (c == 45) = false := by simp; omega
  have g3 : (c == 105) = false := by simp; omega
  have g4 : (c == 73) = false := by simp; omega
  have g5 : (c == 110) = false := by simp; omega
  have g6 : (c == 78) = false := by simp; omega
  clear hc0 hc1
  go_enter Tryz.func143, Tryz.ntmps143
  go_wp2
  go_ret3
  exact ⟨rfl, rfl⟩

set_option maxRecDepth 100000 in
theorem special_neg (s : ByteArray) (c : Int) (h0 : 0 < s.size) (h1 : 1 < s.size) (hm : ((s[0]'h0).toNat : Int) = 45) (hc : ((s[1]'h1).toNat : Int) = c) (hc1 : c ≤ 57) (w : World) :
    Calls Tryz.prog 143 #[.string s] w fun e w' => e = .returned (.tuple #[.float .f64 0, .int .i64 0, .bool false]) ∧ w' = w := by
  have hemp := nonemp h0
  have n1 : ((s.size : Int) == 0) = false := beq_eq_false_iff_ne.2 (by omega)
  have hts : (s.extract 1 s.size).size = s.size - 1 := by simp
  have htc : (((s.extract 1 s.size)[0]'(by rw [hts]; omega)).toNat : Int) = c := by rw [← hc]; simp [ByteArray.getElem_extract]
  have hp := fun w => prefix_none (s.extract 1 s.size) c (by rw [hts]; omega) htc hc1 w
  obtain ⟨t, ht⟩ : ∃ t, s.extract 1 s.size = t := ⟨_, rfl⟩
  rw [ht] at hp
  have hle : (1 : Int) ≤ (s.size : Int) := by omega
  clear hts htc hc hc1
  go_enter Tryz.func143, Tryz.ntmps143
  go_wp2_with (go_at_call 155; (with_reducible refine (hp _).mono ?_); rintro e w1 ⟨rfl, rfl⟩)
  go_ret3
  exact ⟨rfl, rfl⟩
theorem Rd.fits_cases {m nd nm : Nat} {dp : Int} {dot dig : Bool} {c : Int} (h : Rd.fits ⟨m, nd, nm, dp, dot, dig⟩ c) :
    (c = 46 ∧ dot = false ∧ Rd.step ⟨m, nd, nm, dp, dot, dig⟩ c = ⟨m, nd, nm, nd, true, dig⟩) ∨
    (c = 48 ∧ nd = 0 ∧ Rd.step ⟨m, nd, nm, dp, dot, dig⟩ c = ⟨m, nd, nm, dp - 1, dot, true⟩) ∨
    (c = 48 ∧ nd ≠ 0 ∧ nm < 19 ∧ Rd.step ⟨m, nd, nm, dp, dot, dig⟩ c = ⟨m * 10, nd + 1, nm + 1, dp, dot, true⟩) ∨
    (48 < c ∧ c ≤ 57 ∧ nm < 19 ∧ Rd.step ⟨m, nd, nm, dp, dot, dig⟩ c = ⟨m * 10 + (c - 48).toNat, nd + 1, nm + 1, dp, dot, true⟩) ∨
    (c = 48 ∧ nd ≠ 0 ∧ ¬ nm < 19 ∧ Rd.step ⟨m, nd, nm, dp, dot, dig⟩ c = ⟨m, nd + 1, nm, dp, dot, true⟩) := by
  unfold Rd.step
  rcases h with ⟨hc, hd⟩ | ⟨h0, h1, h2⟩
  · have hd' : dot = false := hd
    subst hc hd'
    exact .inl ⟨rfl, rfl, rfl⟩
  · by_cases hc : c = 48
    · subst hc
      by_cases hn : nd = 0
      · subst hn
        exact .inr (.inl ⟨rfl, rfl, rfl⟩)
      · by_cases h19 : nm < 19
        · refine .inr (.inr (.inl ⟨rfl, hn, h19, ?_⟩))
          rw [if_neg (by decide), if_neg (fun g => hn g.2), if_pos h19]
          rfl
        · refine .inr (.inr (.inr (.inr ⟨rfl, hn, h19, ?_⟩)))
          rw [if_neg (by decide), if_neg (fun g => hn g.2), if_neg h19]
    · have h19 : nm < 19 := by rcases h2 with h2 | h2; exact absurd h2 hc; exact h2
      refine .inr (.inr (.inr (.inl ⟨by omega, h1, h19, ?_⟩)))
      rw [if_neg (by omega), if_neg (fun g => hc g.1), if_pos h19]
end Go.Proofs.YtcfknhboicomjaaGreatDoor.Ft
