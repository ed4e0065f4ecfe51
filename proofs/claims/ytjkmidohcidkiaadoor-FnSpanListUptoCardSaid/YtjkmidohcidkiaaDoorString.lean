/- The walk of (time.Duration).String and of pflag's (*durationValue).String. -/
import Derived.Test.YtjkmidohcidkiaaDoorFormat
namespace Go.Proofs.YtjkmidohcidkiaaDoor.Fmt
open Go.RowKit Go.Proofs.YtjkmidohcidkiaaDoorW.PrintWords

theorem format_any (g : Nat) (d : Int) (w : World) (hs : Suf w g []) (h1 : -9223372036854775808 ≤ d) (h2 : d ≤ 9223372036854775807) : Calls Tryd.prog 45 #[.int .i64 d, .pointer (some ⟨g, 0, none⟩)] w (Ends w g (durS d)) := by
  by_cases h0 : d = 0
  · subst h0; exact format_zero g w hs
  · exact format_ne g d w hs h0 h1 h2

def durStr (d : Int) : ByteArray := strOfNums (durS d)

theorem Suf.conv {w : World} {g m c : Nat} {t : List Int} (h : Suf w g t) (hm : m + t.length = 32) :
    (convert 83 9 (.slice (some ⟨g, m, none⟩) (32 - m) c)).run Tryd.prog w = .ok (.string (strOfNums t)) w := by
  obtain ⟨bs, hl, hb⟩ := h
  refine run_convert_bytes_arg w 83 5 Tryd.underlying83 Tryd.underlying5 g m (32 - m) c t (by omega) (fun i hi => ?_) 9 Tryd.underlying9
  rw [hb.cell (m + i) (by simp; omega)]
  rw [List.getElem_append_right (by omega)]
  have : m + i - bs.length = i := by omega
  simp only [this]
  rw [List.getD_eq_getElem?_getD, List.getElem?_eq_getElem (by omega)]; rfl

theorem dec_one (n : Nat) : 1 ≤ (dec n).length := by
  unfold dec
  split
  · simp
  · rw [decD_pos n (by omega)]; simp
theorem durU_len (u : Nat) : 2 ≤ (durU u).length := by
  have h1 := dec_one u
  have h2 := dec_one (u / 1000)
  have h3 := dec_one (u / 1000000)
  have h4 := dec_one (u / 1000000000)
  have h5 := dec_one (u / 60000000000)
  have h6 := dec_one (u / 3600000000000)
  by_cases k1 : u < 1000
  · rw [durU, if_pos k1]; simp
  by_cases k2 : u < 1000000
  · rw [durU, if_neg k1, if_pos k2]; simp; omega
  by_cases k3 : u < 1000000000
  · rw [durU, if_neg k1, if_neg k2, if_pos k3]; simp; omega
  by_cases k4 : u / 1000000000 < 60
  · rw [durU, if_neg k1, if_neg k2, if_neg k3, if_pos k4]; simp; omega
  by_cases k5 : u / 1000000000 < 3600
  · rw [durU, if_neg k1, if_neg k2, if_neg k3, if_neg k4, if_pos k5]; simp; omega
  · rw [durU, if_neg k1, if_neg k2, if_neg k3, if_neg k4, if_neg k5]; simp; omega
theorem durS_len (d : Int) : 2 ≤ (durS d).length := by
  have := durU_len d.natAbs
  unfold durS
  split
  · simp
  · simp; omega

theorem Suf.fresh (w : World) : Suf (w.alloc (.cells #[.int .u8 0, .int .u8 0, .int .u8 0, .int .u8 0, .int .u8 0, .int .u8 0, .int .u8 0, .int .u8 0, .int .u8 0, .int .u8 0, .int .u8 0, .int .u8 0, .int .u8 0, .int .u8 0, .int .u8 0, .int .u8 0,
    .int .u8 0, .int .u8 0, .int .u8 0, .int .u8 0, .int .u8 0, .int .u8 0, .int .u8 0, .int .u8 0, .int .u8 0, .int .u8 0, .int .u8 0, .int .u8 0, .int .u8 0, .int .u8 0, .int .u8 0, .int .u8 0] 101)) w.heap.size [] :=
  ⟨[0, 0, 0, 0, 0, 0, 0, 0, 0, 0, 0, 0, 0, 0, 0, 0, 0, 0, 0, 0, 0, 0, 0, 0, 0, 0, 0, 0, 0, 0, 0, 0], rfl, heap_alloc_new w _⟩

set_option maxRecDepth 100000 in
set_option maxHeartbeats 800000 in
theorem String_any (d : Int) (w : World) (h1 : -9223372036854775808 ≤ d) (h2 : d ≤ 9223372036854775807) :
    Calls Tryd.prog 35 #[.int .i64 d] w fun e w' => e = .returned (.string (durStr d)) ∧ Below w.heap.size w w' := by
  go_enter Tryd.func35, Tryd.ntmps35
  go_wp2_with fail
  refine (format_any w.heap.size d _ (Suf.fresh w) h1 h2).mono ?_
  rintro e w1 ⟨m, hm, rfl, hs1, hg1, hz1⟩
  have hcv := fun c => hs1.conv (c := c) hm
  have hlen := durS_len d
  have hb : Below w.heap.size w w1 := ((Below.refl _ _).alloc (Nat.le_refl _) _).grown hg1 (by simp) (by intro k hk; injection hk with hk; omega)
  have Hz1 := Lib.hid hz1
  have Hm := Lib.hid hm
  have hm1 : m ≤ 30 := by omega
  have hm1i : (m : Int) ≤ 32 := by omega
  have hm2 : ¬ 32 = m := by omega
  have hm3 : (32 = m) = False := by simp; omega
  clear hz1 hm
  go_wp2_with fail
  go_ret
  exact ⟨rfl, hb⟩

theorem ValueString_any (d : Int) (w : World) (g : Nat) (hc : w.cell? ⟨g, 0, none⟩ = some (.int .i64 d)) (h1 : -9223372036854775808 ≤ d) (h2 : d ≤ 9223372036854775807) :
    Calls Tryd.prog 19 #[.pointer (some ⟨g, 0, none⟩)] w fun e w' => e = .returned (.string (durStr d)) ∧ Below w.heap.size w w' := by
  go_enter Tryd.func19, Tryd.ntmps19
  go_wp2_with fail
  refine (String_any d _ h1 h2).mono ?_
  rintro e w1 ⟨rfl, hb⟩
  go_wp2_with fail
  go_ret
  exact ⟨rfl, hb⟩
end Go.Proofs.YtjkmidohcidkiaaDoor.Fmt
