/- The walk of strconv.setDigits. -/
import Derived.Test.YtcfknhboicomjaaGreatDoorFtx
import Derived.Sort.Row
import Derived.Lib.ItoaLen
namespace Go.Proofs.YtcfknhboicomjaaGreatDoor.Ft
open Go.RowKit Fy Go.Sort
open Go.Proofs.YtcfknhboicomjaaGreatDoorW.PrintWords (nums blk_set blk_cell blk_frozen blk_far blk_lt own_ne own_alloc blk_grown own_slice own_lt own_base)

/-- The digits of m, nd of them, from the left. -/
def dgt (m nd j : Nat) : Int := ((48 + m / 10 ^ (nd - 1 - j) % 10 : Nat) : Int)
theorem u8Nat (n : Nat) (h : n < 256) : ((UInt8.ofNat n).toNat : Int) = (n : Int) := by
  simp [UInt8.toNat_ofNat]; omega
theorem putCells_get (nd : Nat) (dk : Array UInt8) (hdk : dk.size = nd) (cs : Array Value) (j : Nat) (hj : j < nd) (hn : nd ≤ cs.size) :
    (putCells (fun (b : UInt8) => Value.int .u8 (b.toNat : Int)) 0 dk cs)[j]? = some (.int .u8 (dk[j]!.toNat : Int)) := by
  unfold putCells
  rw [Array.getElem?_mapIdx, Array.getElem?_eq_getElem (by omega)]
  simp [hdk, hj]
theorem fill_any (bd nd N : Nat) (cs : Array Value) (m : Nat) (w : World) (hb : w.heap[bd]? = some (.cells cs 166 (0, 0))) (hcs : ∀ j, j < nd → cs[j]? = some (.int .u8 0)) (hm0 : 1 ≤ m) (hm : m < 18446744073709551616) (hnd : Lib.nDigits m = nd) (hN : nd ≤ N) :
    Calls Tryz.prog 87 #[.slice (some ⟨bd, 0, none⟩) nd N, .int .u64 m] w fun e w' => e = .returned (.tuple #[]) ∧ ∃ cs', w'.heap[bd]? = some (.cells cs' 166 (0, 0)) ∧ (∀ j, j < nd → cs'[j]? = some (.int .u8 (dgt m nd j))) ∧ w.grownBy w' (some bd) := by
  have hn20 := Lib.nDigits_le20 m hm
  have hsz : (Array.replicate nd (0 : UInt8)).size = nd := by simp
  have hle : nd ≤ cs.size := by
    rcases Nat.eq_zero_or_pos nd with h | h
    · omega
    · have := hcs (nd - 1) (by omega)
      have := (Array.getElem?_eq_some_iff.1 this).1
      omega
  have hH : Holds (fun (b : UInt8) => Value.int .u8 (b.toNat : Int)) w bd 0 (Array.replicate nd (0 : UInt8)) := by
    intro j hj
    rw [hsz] at hj
    refine ⟨?_, by simpa using blk_frozen hb (0 + j)⟩
    have e : cs[0 + j]? = some (Value.int .u8 0) := by rw [Nat.zero_add]; exact hcs j hj
    rw [(blk_cell hb (0 + j)).trans e, getElem!_pos _ j (by simpa using hj)]
    simp
  have := Tryz.internal_strconv_formatBase10 bd 0 N m (Array.replicate nd (0 : UInt8)) w hH (by rw [hsz, ← hnd]; exact Lib.lt_pow_nDigits m) hm (by rw [hsz]; omega)
  rw [hsz] at this
  refine this.mono fun e w' => ?_
  rintro ⟨rfl, n, v', dk, rfl, hF⟩
  refine ⟨rfl, putCells (fun (b : UInt8) => Value.int .u8 (b.toNat : Int)) 0 dk cs, ?_, ?_, ?_⟩
  · show (mapBlock w bd _).heap[bd]? = _
    simp [mapBlock, onCells, Array.getElem?_modify, hb]
  · intro j hj
    rw [putCells_get nd dk hF.size cs j hj hle, hF.done j (Nat.zero_le _) hj]
    unfold Lib.dg dgt
    rw [u8Nat _ (by have := Nat.mod_lt (m / 10 ^ (nd - 1 - j)) (show 0 < 10 by omega); omega)]
  · refine ⟨rfl, rfl, rfl, by show _ ≤ (mapBlock w bd _).heap.size; simp [mapBlock], fun k hk hne => ?_⟩
    show (mapBlock w bd _).heap[k]? = _
    simp only [mapBlock, Array.getElem?_modify]
    rw [if_neg (by intro h; exact hne (by rw [h]))]

theorem pow_le_nDigits (u : Nat) : 1 ≤ u → 10 ^ (Lib.nDigits u - 1) ≤ u := by
  induction u using Nat.strongRecOn with
  | _ u ih =>
    intro h0
    by_cases h : u < 10
    · rw [Lib.nDigits_small h]; simpa using h0
    · rw [Lib.nDigits_big h]
      have := ih (u / 10) (by omega) (by omega)
      have hp := Lib.nDigits_pos (u / 10)
      rw [show Lib.nDigits (u / 10) + 1 - 1 = (Lib.nDigits (u / 10) - 1) + 1 by omega, Nat.pow_succ]
      omega
theorem trim_step (m nd k : Nat) (hk : 1 ≤ k) (hkn : k ≤ nd) (h : m % 10 ^ (nd - k) = 0) (hd : m / 10 ^ (nd - k) % 10 = 0) : m % 10 ^ (nd - (k - 1)) = 0 := by
  rw [show nd - (k - 1) = (nd - k) + 1 by omega, Nat.pow_succ]
  have h1 := Nat.div_add_mod m (10 ^ (nd - k))
  rw [h, Nat.add_zero] at h1
  have h2 := Nat.div_add_mod (m / 10 ^ (nd - k)) 10
  rw [hd, Nat.add_zero] at h2
  rw [← h1, ← h2, ← Nat.mul_assoc]
  exact Nat.mul_mod_right ..
theorem lead_digit (m nd : Nat) (hm0 : 1 ≤ m) (hnd : Lib.nDigits m = nd) : m / 10 ^ (nd - 1) % 10 ≠ 0 := by
  have h1 := Lib.lt_pow_nDigits m
  rw [hnd] at h1
  have hp := Lib.nDigits_pos m
  have h2 : 10 ^ (nd - 1) ≤ m := hnd ▸ pow_le_nDigits m hm0
  have h3 : 1 ≤ m / 10 ^ (nd - 1) := (Nat.le_div_iff_mul_le (Nat.pow_pos (by omega))).2 (by simpa using h2)
  have h4 : m / 10 ^ (nd - 1) < 10 := by
    rw [Nat.div_lt_iff_lt_mul (Nat.pow_pos (by omega))]
    rw [show nd = (nd - 1) + 1 by omega, Nat.pow_succ, Nat.mul_comm] at h1
    simpa using h1
  omega
set_option maxRecDepth 100000 in
set_option maxHeartbeats 4000000 in
theorem set_any (bd nd N : Nat) (cs : Array Value) (m : Nat) (p : Int) (w : World) (hb : w.heap[bd]? = some (.cells cs 166 (0, 0))) (hcs : ∀ j, j < nd → cs[j]? = some (.int .u8 0)) (hm0 : 1 ≤ m) (hm : m < 18446744073709551616) (hnd : Lib.nDigits m = nd) (hN : nd ≤ N) (hN2 : N ≤ 100) (hp0 : -1000 ≤ p) (hp1 : p ≤ 1000) :
    Calls Tryz.prog 103 #[.slice (some ⟨bd, 0, none⟩) N N, .int .u64 m, .int .i64 p, .int .i64 nd] w fun e w' => ∃ k cs', e = .returned (.tuple #[.int .i64 (nd + p), .int .i64 (k : Nat)]) ∧ 1 ≤ k ∧ k ≤ nd ∧ m % 10 ^ (nd - k) = 0 ∧
      w'.heap[bd]? = some (.cells cs' 166 (0, 0)) ∧ (∀ j, j < nd → cs'[j]? = some (.int .u8 (dgt m nd j))) ∧ w.grownBy w' (some bd) := by
  have Hlead := Lib.hid (lead_digit m nd hm0 hnd)
  have hnp : 1 ≤ nd := hnd ▸ Lib.nDigits_pos m
  have hfill := fill_any bd nd N cs m w hb hcs hm0 hm hnd hN
  have e1 : decide ((nd : Int) ≤ (N : Int)) = true := decide_eq_true (by omega)
  have e2 : IntKind.i64.wrap ((nd : Int) + p) = (nd : Int) + p := wrapI (by omega) (by omega)
  have e3 : (0 : Int) ≤ (nd : Int) := by omega
  have e4 : (nd : Int) ≤ (N : Int) := by omega
  have Hcs := Lib.hid hcs
  clear hcs hnd hm hm0
  go_enter Tryz.func103, Tryz.ntmps103
  go_wp2_with (go_at_call 87; (with_reducible refine hfill.mono ?_); rintro e w1 ⟨rfl, cs', h1, h2, h3⟩)
  have H2 := Lib.hid h2
  have H3 := Lib.hid h3
  clear h2 h3 hfill hb e1 e2 e3 e4
  go_loopw [3] (fun kv wr => ∃ k : Nat, 1 ≤ k ∧ k ≤ nd ∧ kv = .int .i64 k ∧ Hid (m % 10 ^ (nd - k) = 0) ∧ ∃ n, wr = w1.drewN n) (fun kv _ => (intOf kv).toNat)
  case atStart => exact ⟨nd, hnp, Nat.le_refl _, rfl, by show _ = _; simp [Nat.mod_one], 0, rfl⟩
  case round =>
    obtain ⟨k, hk1, hk2, rfl, HM, n, rfl⟩ := hrel
    have c1 : (w1.drewN n).cell? ⟨bd, k - 1, none⟩ = some (.int .u8 (dgt m nd (k - 1))) := (blk_cell (w := w1) h1 (k - 1)).trans (H2.out (k - 1) (by omega))
    have g1 : decide ((0 : Int) < (k : Int)) = true := decide_eq_true (by omega)
    have q1 : IntKind.i64.wrap ((k : Int) - 1) = ((k - 1 : Nat) : Int) := by rw [wrapI (by omega) (by omega)]; omega
    have q2 : ((k - 1 : Nat) : Int) < (N : Int) := by omega
    have q3 : (0 : Int) ≤ ((k - 1 : Nat) : Int) := by omega
    have Hk : Hid (dgt m nd (k - 1) = ((48 + m / 10 ^ (nd - k) % 10 : Nat) : Int)) := by
      show _ = _
      unfold dgt
      rw [show nd - 1 - (k - 1) = nd - k by omega]
    obtain ⟨b, hb⟩ : ∃ b, dgt m nd (k - 1) = b := ⟨_, rfl⟩
    rw [hb] at c1 Hk
    obtain ⟨k', hk'⟩ : ∃ k', k - 1 = k' := ⟨_, rfl⟩
    rw [hk'] at c1 q1 q2 q3
    clear hb
    by_cases hz : b = 48
    · have hd : m / 10 ^ (nd - k) % 10 = 0 := by have := Hk.out; omega
      have hk2' : 2 ≤ k := by
        apply Nat.le_of_not_lt
        intro hc
        have : k = 1 := by omega
        subst this
        exact Hlead.out hd
      have Hs := Lib.hid (trim_step m nd k hk1 hk2 HM.out hd)
      rw [hk'] at Hs
      have Hk' := Lib.hid hk'
      clear hd hk'
      subst hz
      go_wp2_with (fail)
      have := Hk'.out
      exact ⟨⟨k', by omega, by omega, rfl, Hs, n, rfl⟩, by simp [intOf]; omega⟩
    · have g2 : (b == 48) = false := by simpa using hz
      have Hk' := Lib.hid hk'
      clear hk'
      go_wp2_with (fail)
      go_ret2
      exact ⟨k, cs', rfl, hk1, hk2, HM.out, h1, H2.out, ⟨H3.out.os, H3.out.tape, H3.out.output, H3.out.size, H3.out.block⟩⟩
end Go.Proofs.YtcfknhboicomjaaGreatDoor.Ft
