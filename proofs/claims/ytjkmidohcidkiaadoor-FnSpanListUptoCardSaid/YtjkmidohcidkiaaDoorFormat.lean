/- The walks of (time.Duration).format and (time.Duration).String. -/
import Derived.Test.YtjkmidohcidkiaaDoorFmt
import Derived.Deep.DeepCutAuto
import Derived.Laws.IdiomCopy
namespace Go.Proofs.YtjkmidohcidkiaaDoor.Fmt
open Go.RowKit Go.Proofs.YtjkmidohcidkiaaDoorW.PrintWords

/-- The block ends with the bytes t; 32 in all. -/
def Suf (w : World) (g : Nat) (t : List Int) : Prop := ∃ bs : List Int, bs.length + t.length = 32 ∧ Buf w g (bs ++ t)

theorem Suf.cell {w : World} {g : Nat} {t : List Int} (h : Suf w g t) (i : Nat) (hi : i < 32) : ∃ ov, w.cell? ⟨g, i, none⟩ = some ov := by
  obtain ⟨bs, hl, hb⟩ := h
  exact ⟨_, hb.cell i (by simp; omega)⟩
theorem Suf.frozen {w : World} {g : Nat} {t : List Int} (h : Suf w g t) (i : Nat) : w.frozen? ⟨g, i, none⟩ = false := by
  obtain ⟨bs, hl, hb⟩ := h
  exact hb.frozen i
theorem Suf.put {w : World} {g : Nat} {t : List Int} (h : Suf w g t) (q : Nat) (hq : q + 1 + t.length = 32) (x : Int) : Suf (w.setCell ⟨g, q, none⟩ (.int .u8 x)) g (x :: t) := by
  obtain ⟨bs, hl, hb⟩ := h
  have e : bs.length = q + 1 := by omega
  refine ⟨bs.take q, by simp; omega, ?_⟩
  have := hb.set_ q x
  rw [List.set_append_left _ _ (by omega)] at this
  have e2 : bs.set q x = bs.take q ++ [x] := by
    have := set_mid bs [] q (q + 1) x (by omega)
    rw [List.append_nil, List.take_append_drop, List.drop_of_length_le (by omega), List.append_nil] at this
    exact this
  rw [e2, List.append_assoc] at this
  exact this

def Ends (w : World) (g : Nat) (t : List Int) (e : Ending) (w' : World) : Prop :=
  ∃ m : Nat, m + t.length = 32 ∧ e = .returned (.int .i64 m) ∧ Suf w' g t ∧ w.grownBy w' (some g) ∧ w'.heap.size = w.heap.size

theorem Suf.mid {w' : World} {g : Nat} {bs t x : List Int} (hx : x.length ≤ bs.length) (hl : bs.length + t.length = 32) (h : Buf w' g ((bs ++ t).take (bs.length - x.length) ++ x ++ (bs ++ t).drop bs.length)) : Suf w' g (x ++ t) := by
  refine ⟨bs.take (bs.length - x.length), by simp; omega, ?_⟩
  rw [List.take_append_of_le_length (by omega), List.drop_left] at h
  rwa [List.append_assoc] at h

theorem fmtInt_suf (g n v : Nat) (t : List Int) (w : World) (hs : Suf w g t) (hn : n + t.length = 32) (hd : (dec v).length ≤ n) (hv2 : v < 18446744073709551616) :
    Calls Tryd.prog 48 #[.slice (some ⟨g, 0, none⟩) n 32, .int .u64 v] w (Ends w g (dec v ++ t)) := by
  obtain ⟨bs, hl, hb⟩ := hs
  obtain rfl : n = bs.length := by omega
  refine (fmtInt_any g bs.length v (bs ++ t) w hb (by simp; omega) (by omega) hd hv2).mono ?_
  rintro e w' ⟨rfl, h1, h2, h3⟩
  exact ⟨bs.length - (dec v).length, by simp; omega, by rw [Int.ofNat_sub hd], Suf.mid hd hl h1, h2, h3⟩

theorem fmtInt_at (a : Int) (g n v : Nat) (t : List Int) (w : World) (hs : Suf w g t) (hn : n + t.length = 32) (ha : a = v) (hd : (dec v).length ≤ n) (hv2 : v < 18446744073709551616) :
    Calls Tryd.prog 48 #[.slice (some ⟨g, 0, none⟩) n 32, .int .u64 a] w (Ends w g (dec v ++ t)) := by
  subst ha; exact fmtInt_suf g n v t w hs hn hd hv2

def Ends2 (w : World) (g : Nat) (t : List Int) (x : Nat) (e : Ending) (w' : World) : Prop :=
  ∃ m : Nat, m + t.length = 32 ∧ e = .returned (.tuple #[.int .i64 m, .int .u64 x]) ∧ Suf w' g t ∧ w.grownBy w' (some g) ∧ w'.heap.size = w.heap.size

theorem frac_len (p v : Nat) : (frac p v).length ≤ p + 1 := by
  have := low_len p v
  unfold frac; split <;> simp; omega

theorem fmtFrac_suf (g n v prec : Nat) (t : List Int) (w : World) (hs : Suf w g t) (hn : n + t.length = 32) (hd : prec + 1 ≤ n) (hv2 : v < 18446744073709551616) (x : Nat) (hx : v / 10 ^ prec = x) :
    Calls Tryd.prog 47 #[.slice (some ⟨g, 0, none⟩) n 32, .int .u64 v, .int .i64 prec] w (Ends2 w g (frac prec v ++ t) x) := by
  subst hx
  obtain ⟨bs, hl, hb⟩ := hs
  obtain rfl : n = bs.length := by omega
  have hf := frac_len prec v
  refine (fmtFrac_any g bs.length v prec (bs ++ t) w hb (by simp; omega) (by omega) hd hv2).mono ?_
  rintro e w' ⟨rfl, h1, h2, h3⟩
  exact ⟨bs.length - (frac prec v).length, by simp; omega, by rw [Int.ofNat_sub (by omega)], Suf.mid (by omega) hl h1, h2, h3⟩

theorem decD_len (k : Nat) : ∀ n, n < 10 ^ k → (decD n).length ≤ k := by
  induction k with
  | zero => intro n h; obtain rfl : n = 0 := by simpa using h
            simp [decD_zero]
  | succ k ih =>
    intro n h
    by_cases hn : n = 0
    · subst hn; simp [decD_zero]
    · rw [decD_pos n (by omega)]
      have := ih (n / 10) (by rw [Nat.pow_succ] at h; omega)
      simp; omega
theorem dec_len_le (k n : Nat) (hk : 0 < k) (h : n < 10 ^ k) : (dec n).length ≤ k := by
  unfold dec
  split
  · simp; omega
  · exact decD_len k n h

def durU (u : Nat) : List Int :=
  if u < 1000 then dec u ++ [110, 115]
  else if u < 1000000 then dec (u / 1000) ++ (frac 3 u ++ [194, 181, 115])
  else if u < 1000000000 then dec (u / 1000000) ++ (frac 6 u ++ [109, 115])
  else if u / 1000000000 < 60 then dec (u / 1000000000) ++ (frac 9 u ++ [115])
  else if u / 1000000000 < 3600 then dec (u / 60000000000) ++ (109 :: (dec (u / 1000000000 % 60) ++ (frac 9 u ++ [115])))
  else dec (u / 3600000000000) ++ (104 :: (dec (u / 60000000000 % 60) ++ (109 :: (dec (u / 1000000000 % 60) ++ (frac 9 u ++ [115])))))
def durS (d : Int) : List Int := if d = 0 then [48, 115] else (if d < 0 then [45] else []) ++ durU d.natAbs

theorem format_zero (g : Nat) (w : World) (hs : Suf w g []) : Calls Tryd.prog 45 #[.int .i64 0, .pointer (some ⟨g, 0, none⟩)] w (Ends w g (durS 0)) := by
  obtain ⟨v31, h31⟩ := hs.cell 31 (by omega)
  obtain ⟨v30, h30⟩ := hs.cell 30 (by omega)
  have f31 := hs.frozen 31
  have f30 := hs.frozen 30
  have hst := (hs.put 31 (by simp) 115).put 30 (by simp) 48
  go_enter Tryd.func45, Tryd.ntmps45
  go_wp2
  go_ret
  exact ⟨30, by simp [durS], rfl, hst, only_set (only_set (World.grownBy.refl w _) _ _) _ _, by simp [size_set]⟩

theorem run_copy_mu (w : World) (g ty : Nat) (c : Nat) (t : List Int) (hs : Suf w g t) :
    (Builtin.copy_ #[83, 9] ty #[.slice (some ⟨g, 29, none⟩) 3 c, .string ⟨#[194, 181]⟩]).run Tryd.prog w = .ok (goInt 2) ((w.setCell ⟨g, 29, none⟩ (.int .u8 194)).setCell ⟨g, 30, none⟩ (.int .u8 181)) := by
  obtain ⟨i, hi, h0, h1, h2⟩ := info_parts PFnSpans.info5
  have hst := run_storeCells_cells (P := Tryd.prog) g 29 [.int .u8 194, .int .u8 181] 0 w
    (fun j hj => by obtain ⟨ov, h⟩ := hs.cell (29 + 0 + j) (by simp at hj; omega); rw [h]; rfl) (fun j _ => hs.frozen _) (by simp [Value.oneCell'])
  simp only [World.setCells] at hst
  have e : ((ByteArray.mk #[194, 181]).extract 0 2).data.toList = [194, 181] := by decide +kernel
  have e2 : (((ByteArray.mk #[194, 181]).extract 0 2).data.map (fun b => Value.int .u8 b.toNat)).toList = [.int .u8 194, .int .u8 181] := by rw [Array.toList_map, e]; rfl
  have e3 : (ByteArray.mk #[194, 181]).size = 2 := rfl
  simp [Builtin.copy_, run_underlying Tryd.underlying83, Builtin.lenOf, Builtin.firstCells, sizeOf, typeInfo, hi, h1, e2, e3, hst]

set_option maxRecDepth 100000 in
set_option maxHeartbeats 800000 in
theorem format_ne (g : Nat) (d : Int) (w : World) (hs : Suf w g []) (h0 : d ≠ 0) (h1 : -9223372036854775808 ≤ d) (h2 : d ≤ 9223372036854775807) : Calls Tryd.prog 45 #[.int .i64 d, .pointer (some ⟨g, 0, none⟩)] w (Ends w g (durS d)) := by
  have Hd : Hid (durS d = (if d < 0 then [45] else []) ++ durU d.natAbs) := if_neg h0
  go_enter Tryd.func45, Tryd.ntmps45
  go_upto_if 13 with fail
  go_cut [6] (fun a w1 => ∃ u : Nat, 0 < u ∧ u ≤ 9223372036854775808 ∧ u = d.natAbs ∧ a = .int .u64 u ∧ w1 = w)
  case first =>
    go_wp2
    all_goals go_meet
    · case rel => exact ⟨d.natAbs, by omega, by omega, rfl, by rw [IntKind.wrap_u64, IntKind.wrap_u64]; congr 1; omega, rfl⟩
    · case rel => exact ⟨d.natAbs, by omega, by omega, rfl, by rw [IntKind.wrap_u64]; congr 1; omega, rfl⟩
  case rest =>
    obtain ⟨u, hu1, hu2, hu3, rfl, rfl⟩ := hcut
    have Hu3 := Lib.hid hu3
    clear hu3
    go_upto_if 17 with fail
    go_cut [5] (fun a w1 => ∃ m : Nat, m ≤ 32 ∧ 1 ≤ m ∧ a = .int .i64 m ∧ Hid (m + (durU u).length = 32) ∧ Suf w1 g (durU u) ∧ wc.grownBy w1 (some g) ∧ w1.heap.size = wc.heap.size)
    case first =>
      obtain ⟨v31, c31⟩ := hs.cell 31 (by omega)
      obtain ⟨v30, c30⟩ := hs.cell 30 (by omega)
      have f31 := hs.frozen 31
      have f30 := hs.frozen 30
      have hu0 : ((u : Int) == 0) = false := by simp; omega
      by_cases k1 : u < 1000
      · have hst := (hs.put 31 (by simp) 115).put 30 (by simp) 110
        have hgr := only_set (only_set (World.grownBy.refl wc (some g)) 31 (.int .u8 115)) 30 (.int .u8 110)
        have hsz : ((wc.setCell ⟨g, 31, none⟩ (.int .u8 115)).setCell ⟨g, 30, none⟩ (.int .u8 110)).heap.size = wc.heap.size := by rw [size_set, size_set]
        have Hsz := Lib.hid hsz
        clear hsz
        have t17 : decide ((u:Int) < 1000000000) = true := by simp; omega
        have t40 : decide ((u:Int) < 1000) = true := by simp; omega
        have Hfin : Hid (durU u = dec u ++ (frac 0 u ++ [110, 115])) := by show _ = _; rw [durU, if_pos k1]; simp [frac, Nat.mod_one]
        have hlen := dec_len_le 3 u (by omega) (by omega)
        rw [t17]
        go_wp2_with fail
        refine (fmtFrac_suf g 30 u 0 [110, 115] _ hst (by simp) (by omega) (by omega) u (by simp)).mono ?_
        rintro e w1 ⟨m, hm, rfl, hs1, hg1, hz1⟩
        have e0 : frac 0 u = [] := by simp [frac, Nat.mod_one]
        rw [e0] at hm hs1
        have Hz1 := Lib.hid hz1
        clear hz1 e0 t17 t40 c31 c30 f31 f30
        obtain rfl : m = 30 := by simpa using hm
        clear hm
        go_wp2_with fail
        refine (fmtInt_suf g 30 u _ _ hs1 (by simp) (by omega) (by omega)).mono ?_
        rintro e w2 ⟨m, hm, rfl, hs2, hg2, hz2⟩
        have Hz2 := Lib.hid hz2
        have Hm := Lib.hid hm
        have hm1 : m ≤ 32 := by omega
        have hm2 : 1 ≤ m := by simp at hm; omega
        clear hz2 hm
        go_wp2_with fail
        go_meet
        case rel => exact ⟨m, hm1, hm2, rfl, by show _ = _; rw [Hfin.out]; simpa [frac, Nat.mod_one] using Hm.out, by rw [Hfin.out]; simpa [frac, Nat.mod_one] using hs2, (hgr.trans hg1).trans hg2, by rw [Hz2.out, Hz1.out, Hsz.out]⟩
      by_cases k2 : u < 1000000
      · have hs1 := hs.put 31 (by simp) 115
        have hcp := fun ty => run_copy_mu (wc.setCell ⟨g, 31, none⟩ (.int .u8 115)) g ty 3 [115] hs1
        have hst : Suf (((wc.setCell ⟨g, 31, none⟩ (.int .u8 115)).setCell ⟨g, 29, none⟩ (.int .u8 194)).setCell ⟨g, 30, none⟩ (.int .u8 181)) g [194, 181, 115] := by
          obtain ⟨bs, hl, hb⟩ := hs1
          match bs, hl with
          | [b0, b1, b2, b3, b4, b5, b6, b7, b8, b9, b10, b11, b12, b13, b14, b15, b16, b17, b18, b19, b20, b21, b22, b23, b24, b25, b26, b27, b28, b29, b30], _ =>
            exact ⟨[b0, b1, b2, b3, b4, b5, b6, b7, b8, b9, b10, b11, b12, b13, b14, b15, b16, b17, b18, b19, b20, b21, b22, b23, b24, b25, b26, b27, b28], rfl, (hb.set_ 29 194).set_ 30 181⟩
        have hgr := only_set (only_set (only_set (World.grownBy.refl wc (some g)) 31 (.int .u8 115)) 29 (.int .u8 194)) 30 (.int .u8 181)
        have hsz : (((wc.setCell ⟨g, 31, none⟩ (.int .u8 115)).setCell ⟨g, 29, none⟩ (.int .u8 194)).setCell ⟨g, 30, none⟩ (.int .u8 181)).heap.size = wc.heap.size := by rw [size_set, size_set, size_set]
        have Hsz := Lib.hid hsz
        clear hsz
        have t17 : decide ((u:Int) < 1000000000) = true := by simp; omega
        have t40 : decide ((u:Int) < 1000) = false := by simp; omega
        have t47 : decide ((u:Int) < 1000000) = true := by simp; omega
        have Hfin : Hid (durU u = dec (u / 1000) ++ (frac 3 u ++ [194, 181, 115])) := by show _ = _; rw [durU, if_neg k1, if_pos k2]
        obtain ⟨x, hx⟩ : ∃ x, u / 1000 = x := ⟨_, rfl⟩
        have hx1 : x < 1000 := by omega
        have hx2 : u / 10 ^ 3 = x := hx
        have hlen := dec_len_le 3 x (by omega) (by omega)
        have hfl := frac_len 3 u
        have Hx := Lib.hid hx
        have Hx2 := Lib.hid hx2
        clear hx hx2
        rw [t17]
        go_wp2_with fail
        refine (fmtFrac_suf g 29 u 3 [194, 181, 115] _ hst (by simp) (by omega) (by omega) x Hx2.out).mono ?_
        rintro e w1 ⟨m, hm, rfl, hs1, hg1, hz1⟩
        have Hz1 := Lib.hid hz1
        have hm1 : m ≤ 32 := by omega
        have hm1i : (m : Int) ≤ 32 := by omega
        have hm2 : 20 ≤ m := by simp at hm; omega
        have Hm := Lib.hid hm
        clear hz1 t17 t40 t47 c31 c30 f31 f30 hm hcp
        go_wp2_with fail
        refine (fmtInt_suf g m x _ _ hs1 Hm.out (by omega) (by omega)).mono ?_
        rintro e w2 ⟨m2, hm, rfl, hs2, hg2, hz2⟩
        have Hz2 := Lib.hid hz2
        have Hm2 := Lib.hid hm
        have hm3 : m2 ≤ 32 := by omega
        have hm4 : 1 ≤ m2 := by simp at hm; omega
        clear hz2 hm
        go_wp2_with fail
        go_meet
        case rel => exact ⟨m2, hm3, hm4, rfl, by show _ = _; rw [Hfin.out, Hx.out]; exact Hm2.out, by rw [Hfin.out, Hx.out]; exact hs2, (hgr.trans hg1).trans hg2, by rw [Hz2.out, Hz1.out, Hsz.out]⟩
      by_cases k3 : u < 1000000000
      · have hst := (hs.put 31 (by simp) 115).put 30 (by simp) 109
        have hgr := only_set (only_set (World.grownBy.refl wc (some g)) 31 (.int .u8 115)) 30 (.int .u8 109)
        have hsz : ((wc.setCell ⟨g, 31, none⟩ (.int .u8 115)).setCell ⟨g, 30, none⟩ (.int .u8 109)).heap.size = wc.heap.size := by rw [size_set, size_set]
        have Hsz := Lib.hid hsz
        clear hsz
        have t17 : decide ((u:Int) < 1000000000) = true := by simp; omega
        have t40 : decide ((u:Int) < 1000) = false := by simp; omega
        have t47 : decide ((u:Int) < 1000000) = false := by simp; omega
        have Hfin : Hid (durU u = dec (u / 1000000) ++ (frac 6 u ++ [109, 115])) := by show _ = _; rw [durU, if_neg k1, if_neg k2, if_pos k3]
        obtain ⟨x, hx⟩ : ∃ x, u / 1000000 = x := ⟨_, rfl⟩
        have hx1 : x < 1000 := by omega
        have hx2 : u / 10 ^ 6 = x := hx
        have hlen := dec_len_le 3 x (by omega) (by omega)
        have hfl := frac_len 6 u
        have Hx := Lib.hid hx
        have Hx2 := Lib.hid hx2
        clear hx hx2
        rw [t17]
        go_wp2_with fail
        refine (fmtFrac_suf g 30 u 6 [109, 115] _ hst (by simp) (by omega) (by omega) x Hx2.out).mono ?_
        rintro e w1 ⟨m, hm, rfl, hs1, hg1, hz1⟩
        have Hz1 := Lib.hid hz1
        have hm1 : m ≤ 32 := by omega
        have hm1i : (m : Int) ≤ 32 := by omega
        have hm2 : 20 ≤ m := by simp at hm; omega
        have Hm := Lib.hid hm
        clear hz1 t17 t40 t47 c31 c30 f31 f30 hm
        go_wp2_with fail
        refine (fmtInt_suf g m x _ _ hs1 Hm.out (by omega) (by omega)).mono ?_
        rintro e w2 ⟨m2, hm, rfl, hs2, hg2, hz2⟩
        have Hz2 := Lib.hid hz2
        have Hm2 := Lib.hid hm
        have hm3 : m2 ≤ 32 := by omega
        have hm4 : 1 ≤ m2 := by simp at hm; omega
        clear hz2 hm
        go_wp2_with fail
        go_meet
        case rel => exact ⟨m2, hm3, hm4, rfl, by show _ = _; rw [Hfin.out, Hx.out]; exact Hm2.out, by rw [Hfin.out, Hx.out]; exact hs2, (hgr.trans hg1).trans hg2, by rw [Hz2.out, Hz1.out, Hsz.out]⟩
      · have hst := hs.put 31 (by simp) 115
        have hgr := only_set (World.grownBy.refl wc (some g)) 31 (.int .u8 115)
        have hsz : (wc.setCell ⟨g, 31, none⟩ (.int .u8 115)).heap.size = wc.heap.size := by rw [size_set]
        have Hsz := Lib.hid hsz
        clear hsz
        have t17 : decide ((u:Int) < 1000000000) = false := by simp; omega
        obtain ⟨x, hx⟩ : ∃ x, u / 1000000000 = x := ⟨_, rfl⟩
        have hx1 : x ≤ 9223372036 := by omega
        have hx2 : u / 10 ^ 9 = x := hx
        have hfl := frac_len 9 u
        have Hx := Lib.hid hx
        have Hx2 := Lib.hid hx2
        clear hx hx2
        rw [t17]
        go_wp2_with fail
        refine (fmtFrac_suf g 31 u 9 [115] _ hst (by simp) (by omega) (by omega) x Hx2.out).mono ?_
        rintro e w1 ⟨m, hm, rfl, hs1, hg1, hz1⟩
        have Hz1 := Lib.hid hz1
        have hm1 : m ≤ 32 := by omega
        have hm1i : (m : Int) ≤ 32 := by omega
        have hm2 : 21 ≤ m := by simp at hm; omega
        have Hm := Lib.hid hm
        clear hz1 t17 c31 c30 f31 f30 hm
        have hl60 := dec_len_le 2 (x % 60) (by omega) (by omega)
        go_wp2_with fail
        refine (fmtInt_at _ g m (x % 60) _ _ hs1 Hm.out (by omega) (by omega) (by omega)).mono ?_
        rintro e w2 ⟨m2, hm, rfl, hs2, hg2, hz2⟩
        have Hz2 := Lib.hid hz2
        have Hm2 := Lib.hid hm
        have hm3 : m2 ≤ 32 := by omega
        have hm3i : (m2 : Int) ≤ 32 := by omega
        have hm4 : 19 ≤ m2 := by have := Hm.out; simp at hm this; omega
        clear hz2 hm
        by_cases kx : x < 60
        · have t96 : decide (0 < (x : Int) / 60) = false := by simp; omega
          have Hfin : Hid (durU u = dec (x % 60) ++ (frac 9 u ++ [115])) := by
            show _ = _
            rw [durU, if_neg k1, if_neg k2, if_neg k3, Hx.out, if_pos kx, Nat.mod_eq_of_lt kx]
          go_wp2_with fail
          go_meet
          case rel => exact ⟨m2, hm3, by omega, rfl, by show _ = _; rw [Hfin.out]; exact Hm2.out, by rw [Hfin.out]; exact hs2, (hgr.trans hg1).trans hg2, by rw [Hz2.out, Hz1.out, Hsz.out]⟩
        · have t96 : decide (0 < (x : Int) / 60) = true := by simp; omega
          obtain ⟨q2, rfl⟩ : ∃ q2, m2 = q2 + 1 := ⟨m2 - 1, by omega⟩
          have hq2i : (q2 : Int) ≤ 32 := by omega
          obtain ⟨vq, cq⟩ := hs2.cell q2 (by omega)
          have fq := hs2.frozen q2
          have hst2 := hs2.put q2 Hm2.out 109
          have hgr2 := only_set (World.grownBy.refl w2 (some g)) q2 (.int .u8 109)
          have Hsz2 := Lib.hid (size_set w2 ⟨g, q2, none⟩ (.int .u8 109))
          have Hm2' : Hid (q2 + (109 :: (dec (x % 60) ++ (frac 9 u ++ [115]))).length = 32) := by
            have := Hm2.out
            show _ = _
            simp at this ⊢; omega
          have hl60' := dec_len_le 2 (x / 60 % 60) (by omega) (by omega)
          go_wp2_with fail
          refine (fmtInt_at _ g q2 (x / 60 % 60) _ _ hst2 Hm2'.out (by omega) (by omega) (by omega)).mono ?_
          rintro e w3 ⟨m3, hm, rfl, hs3, hg3, hz3⟩
          have Hz3 := Lib.hid hz3
          have Hm3 := Lib.hid hm
          have hm5 : m3 ≤ 32 := by omega
          have hm5i : (m3 : Int) ≤ 32 := by omega
          have hm6 : 16 ≤ m3 := by have := Hm2'.out; simp at hm this; omega
          clear hz3 hm cq fq t96
          by_cases ky : x < 3600
          · have t113 : decide (0 < (x : Int) / 60 / 60) = false := by simp; omega
            have Hfin : Hid (durU u = dec (x / 60 % 60) ++ (109 :: (dec (x % 60) ++ (frac 9 u ++ [115])))) := by
              show _ = _
              rw [durU, if_neg k1, if_neg k2, if_neg k3, Hx.out, if_neg kx, if_pos ky, show u / 60000000000 = x / 60 % 60 by have := Hx.out; omega]
            go_wp2_with fail
            go_meet
            case rel => exact ⟨m3, hm5, by omega, rfl, by show _ = _; rw [Hfin.out]; exact Hm3.out, by rw [Hfin.out]; exact hs3, (((hgr.trans hg1).trans hg2).trans hgr2).trans hg3, by rw [Hz3.out, Hsz2.out, Hz2.out, Hz1.out, Hsz.out]⟩
          · have t113 : decide (0 < (x : Int) / 60 / 60) = true := by simp; omega
            obtain ⟨q3, rfl⟩ : ∃ q3, m3 = q3 + 1 := ⟨m3 - 1, by omega⟩
            have hq3i : (q3 : Int) ≤ 32 := by omega
            obtain ⟨vq, cq⟩ := hs3.cell q3 (by omega)
            have fq := hs3.frozen q3
            have hst3 := hs3.put q3 Hm3.out 104
            have hgr3 := only_set (World.grownBy.refl w3 (some g)) q3 (.int .u8 104)
            have Hsz3 := Lib.hid (size_set w3 ⟨g, q3, none⟩ (.int .u8 104))
            have Hm3' : Hid (q3 + (104 :: (dec (x / 60 % 60) ++ (109 :: (dec (x % 60) ++ (frac 9 u ++ [115]))))).length = 32) := by
              have := Hm3.out
              show _ = _
              simp at this ⊢; omega
            have hlh := dec_len_le 7 (x / 60 / 60) (by omega) (by omega)
            have Hfin : Hid (durU u = dec (x / 60 / 60) ++ (104 :: (dec (x / 60 % 60) ++ (109 :: (dec (x % 60) ++ (frac 9 u ++ [115])))))) := by
              show _ = _
              rw [durU, if_neg k1, if_neg k2, if_neg k3, Hx.out, if_neg kx, if_neg ky, show u / 60000000000 = x / 60 by have := Hx.out; omega, show u / 3600000000000 = x / 60 / 60 by have := Hx.out; omega]
            go_wp2_with fail
            refine (fmtInt_at _ g q3 (x / 60 / 60) _ _ hst3 Hm3'.out (by omega) (by omega) (by omega)).mono ?_
            rintro e w4 ⟨m4, hm, rfl, hs4, hg4, hz4⟩
            have Hz4 := Lib.hid hz4
            have Hm4 := Lib.hid hm
            have hm7 : m4 ≤ 32 := by omega
            have hm8 : 1 ≤ m4 := by have := Hm3'.out; simp at hm this; omega
            clear hz4 hm cq fq t113
            go_wp2_with fail
            go_meet
            case rel => exact ⟨m4, hm7, hm8, rfl, by show _ = _; rw [Hfin.out]; exact Hm4.out, by rw [Hfin.out]; exact hs4, (((((hgr.trans hg1).trans hg2).trans hgr2).trans hg3).trans hgr3).trans hg4, by rw [Hz4.out, Hsz3.out, Hz3.out, Hsz2.out, Hz2.out, Hz1.out, Hsz.out]⟩
    case rest =>
      obtain ⟨m, hm1, hm2, rfl, Hm, hs1, hg1, hz1⟩ := hcut
      have Hz1 := Lib.hid hz1
      clear hz1
      by_cases hneg : d < 0
      · obtain ⟨q, rfl⟩ : ∃ q, m = q + 1 := ⟨m - 1, by omega⟩
        obtain ⟨vq, cq⟩ := hs1.cell q (by omega)
        have fq := hs1.frozen q
        have hst := hs1.put q Hm.out 45
        have hgr := only_set hg1 q (.int .u8 45)
        go_wp2
        go_ret
        have e : durS d = 45 :: durU u := by rw [Hd.out, if_pos hneg, Hu3.out]; rfl
        exact ⟨q, by rw [e]; have := Hm.out; simp; omega, rfl, by rw [e]; exact hst, hgr, by rw [size_set, Hz1.out]⟩
      · go_wp2
        go_ret
        have e : durS d = durU u := by rw [Hd.out, if_neg (by omega), Hu3.out]; rfl
        exact ⟨m, by rw [e]; exact Hm.out, rfl, by rw [e]; exact hs1, hg1, Hz1.out⟩
end Go.Proofs.YtjkmidohcidkiaaDoor.Fmt
