/- The walks of time.fmtInt and time.fmtFrac over an array block that the caller made. -/
import Derived.Test.YtjkmidohcidkiaaDoorPFnSpansx0
import Derived.Outline
import Derived.Lib.Hide
namespace Go.Proofs.YtjkmidohcidkiaaDoor.Fmt
open Go.RowKit Go.Proofs.YtjkmidohcidkiaaDoorW.PrintWords

def decD (n : Nat) : List Int := if _h : n = 0 then [] else decD (n / 10) ++ [48 + ((n % 10 : Nat) : Int)]
termination_by n
decreasing_by omega

theorem decD_zero : decD 0 = [] := by rw [decD]; simp
theorem decD_pos (n : Nat) (h : 0 < n) : decD n = decD (n / 10) ++ [48 + ((n % 10 : Nat) : Int)] := by rw [decD]; simp [Nat.ne_of_gt h]

def Buf (w : World) (g : Nat) (bs : List Int) : Prop := w.heap[g]? = some (.cells (nums .u8 bs).toArray 101 (0, 0))
theorem Buf.cell {w : World} {g : Nat} {bs : List Int} (h : Buf w g bs) (i : Nat) (hi : i < bs.length) : w.cell? ⟨g, i, none⟩ = some (.int .u8 bs[i]) := by
  rw [blk_cell h]; simp [nums, hi]
theorem Buf.frozen {w : World} {g : Nat} {bs : List Int} (h : Buf w g bs) (i : Nat) : w.frozen? ⟨g, i, none⟩ = false := blk_frozen h i
theorem Buf.set_ {w : World} {g : Nat} {bs : List Int} (h : Buf w g bs) (i : Nat) (x : Int) : Buf (w.setCell ⟨g, i, none⟩ (.int .u8 x)) g (bs.set i x) := by
  have := blk_set h i (.int .u8 x)
  unfold Buf
  rw [this]
  simp [nums, List.map_set]
theorem only_set {a w : World} {g : Nat} (h : a.grownBy w (some g)) (i : Nat) (u : Value) : a.grownBy (w.setCell ⟨g, i, none⟩ u) (some g) :=
  ⟨h.os, h.tape, h.output, by simpa [World.setCell] using h.size, fun k hk hne => (Below.heap_setCell w ⟨g, i, none⟩ u k (fun e => hne (by rw [e]))).trans (h.block k hk hne)⟩
theorem size_set (w : World) (a : Addr) (u : Value) : (w.setCell a u).heap.size = w.heap.size := by simp [World.setCell]

theorem set_mid (bs t : List Int) (p n : Nat) (d : Int) (hp : p + 1 ≤ bs.length) : (bs.take (p + 1) ++ t ++ bs.drop n).set p d = bs.take p ++ (d :: t) ++ bs.drop n := by
  rw [List.append_assoc, List.set_append_left _ _ (by simp; omega), List.take_succ_eq_append_getElem (by omega), List.set_append_right _ _ (by simp; omega)]
  simp [Nat.min_eq_left (by omega : p ≤ bs.length)]

theorem dec_len (n : Nat) (h : 0 < n) : (decD n).length = (decD (n / 10)).length + 1 := by rw [decD_pos n h]; simp

structure IntInv (g n v : Nat) (bs : List Int) (w wr : World) (x p : Nat) (t : List Int) : Prop where
  buf : Buf wr g (bs.take p ++ t ++ bs.drop n)
  len : p + t.length = n
  dig : decD x ++ t = decD v
  small : x ≤ v
  only : w.grownBy wr (some g)
  size : wr.heap.size = w.heap.size

theorem IntInv.step {g n v : Nat} {bs : List Int} {w wr : World} {x p : Nat} {t : List Int} (h : IntInv g n v bs w wr x (p + 1) t) (hl : bs.length = 32) (hn : n ≤ 32) (hx : 0 < x) :
    IntInv g n v bs w (wr.setCell ⟨g, p, none⟩ (.int .u8 (48 + ((x % 10 : Nat) : Int)))) (x / 10) p ((48 + ((x % 10 : Nat) : Int)) :: t) := by
  obtain ⟨h1, h2, h3, h4, h5, h6⟩ := h
  refine ⟨?_, ?_, ?_, ?_, only_set h5 _ _, by rw [size_set, h6]⟩
  · have := h1.set_ p (48 + ((x % 10 : Nat) : Int))
    rwa [set_mid bs t p n _ (by omega)] at this
  · simp; omega
  · rw [← h3, decD_pos x hx]; simp
  · omega

set_option maxHeartbeats 400000 in
theorem fmtInt_pos (g n v : Nat) (bs : List Int) (w : World) (hb : Buf w g bs) (hl : bs.length = 32) (hn : n ≤ 32) (hd : (decD v).length ≤ n) (hv : 0 < v) (hv2 : v < 18446744073709551616) :
    Calls Tryd.prog 48 #[.slice (some ⟨g, 0, none⟩) n 32, .int .u64 v] w fun e w' => e = .returned (.int .i64 ((n : Int) - (decD v).length)) ∧
      Buf w' g (bs.take (n - (decD v).length) ++ decD v ++ bs.drop n) ∧ w.grownBy w' (some g) ∧ w'.heap.size = w.heap.size := by
  have hv0 : ((v : Int) == 0) = false := by simp; omega
  have Hl := Lib.hid hl
  clear hl
  go_enter Tryd.func48, Tryd.ntmps48
  go_wp2_with fail
  go_loopw [1, 5] (fun a b wr => ∃ (x p : Nat) (t : List Int), a = .int .u64 x ∧ b = .int .i64 p ∧ IntInv g n v bs w wr x p t) (fun a _ _ => (intOf a).toNat)
  case atStart => exact ⟨v, n, [], rfl, rfl, by simpa using hb, by simp, by simp, Nat.le_refl _, World.grownBy.refl w _, rfl⟩
  case round =>
    obtain ⟨x, p, t, rfl, rfl, hi⟩ := hrel
    by_cases hx : 0 < x
    · have h1 := hi.len
      have h2 : (decD v).length = (decD x).length + t.length := by rw [← hi.dig]; simp
      have h3 := dec_len x hx
      obtain ⟨q, rfl⟩ : ∃ q, p = q + 1 := ⟨p - 1, by omega⟩
      have hst := hi.step Hl.out hn hx
      have hbl : q < (bs.take (q + 1) ++ t ++ bs.drop n).length := by simp [Hl.out]; omega
      obtain ⟨ov, hc⟩ : ∃ ov, wr.cell? ⟨g, q, none⟩ = some ov := ⟨_, hi.buf.cell q hbl⟩
      have hf := hi.buf.frozen q
      have hq := hi.small
      clear h2 h3 hbl
      go_wp2
      rw [show (48 + ((x % 10 : Nat) : Int)) = (x : Int) % 10 + 48 by omega] at hst
      exact ⟨⟨x / 10, q, _, by simp, rfl, hst⟩, by simp [intOf]; omega⟩
    · obtain rfl : x = 0 := by omega
      have ht : t = decD v := by have := hi.dig; rwa [decD_zero, List.nil_append] at this
      subst ht
      have h1 := hi.len
      have hp : p = n - (decD v).length := by omega
      go_wp2
      go_ret
      exact ⟨by rw [hp, Int.ofNat_sub hd]; rfl, by have := hi.buf; rwa [hp] at this, hi.only, hi.size⟩

def dec (n : Nat) : List Int := if n = 0 then [48] else decD n

theorem fmtInt_any (g n v : Nat) (bs : List Int) (w : World) (hb : Buf w g bs) (hl : bs.length = 32) (hn : n ≤ 32) (hd : (dec v).length ≤ n) (hv2 : v < 18446744073709551616) :
    Calls Tryd.prog 48 #[.slice (some ⟨g, 0, none⟩) n 32, .int .u64 v] w fun e w' => e = .returned (.int .i64 ((n : Int) - (dec v).length)) ∧
      Buf w' g (bs.take (n - (dec v).length) ++ dec v ++ bs.drop n) ∧ w.grownBy w' (some g) ∧ w'.heap.size = w.heap.size := by
  by_cases hv : v = 0
  · subst hv
    have hd' : 1 ≤ n := by simpa [dec] using hd
    obtain ⟨m, rfl⟩ : ∃ m, n = m + 1 := ⟨n - 1, by omega⟩
    have hst := hb.set_ m 48
    have hgr := only_set (World.grownBy.refl w (some g)) m (.int .u8 48)
    have hm := set_mid bs [] m (m + 1) 48 (by omega)
    have Hm := Lib.hid hm
    obtain ⟨ov, hc⟩ : ∃ ov, w.cell? ⟨g, m, none⟩ = some ov := ⟨_, hb.cell m (by omega)⟩
    have hf := hb.frozen m
    clear hm hl hd
    go_enter Tryd.func48, Tryd.ntmps48
    go_wp2
    go_ret
    refine ⟨by simp [dec], ?_, hgr, size_set _ _ _⟩
    have := Hm.out
    rw [List.append_nil, List.take_append_drop] at this
    rw [this] at hst
    simpa [dec] using hst
  · have e : dec v = decD v := if_neg hv
    rw [e] at hd ⊢
    exact fmtInt_pos g n v bs w hb hl hn hd (by omega) hv2

def low : Nat → Nat → List Int
  | 0, _ => []
  | i + 1, v => if v % 10 ^ (i + 1) = 0 then [] else (48 + ((v / 10 ^ i % 10 : Nat) : Int)) :: low i v

def frac (prec v : Nat) : List Int := if v % 10 ^ prec = 0 then [] else 46 :: low prec v

theorem low_len (i v : Nat) : (low i v).length ≤ i := by
  induction i with
  | zero => simp [low]
  | succ i ih => unfold low; split <;> simp; omega

theorem low_zero (i v : Nat) (h : v % 10 ^ i = 0) : low i v = [] := by
  cases i with
  | zero => rfl
  | succ i => simp [low, h]

theorem mod_pow_succ (v i : Nat) : v % 10 ^ (i + 1) = 10 ^ i * (v / 10 ^ i % 10) + v % 10 ^ i := by
  rw [Nat.pow_succ, Nat.mod_mul]; omega

structure FracInv (g n v : Nat) (bs : List Int) (w wr : World) (x p : Nat) (b : Bool) (i : Nat) (t : List Int) : Prop where
  buf : Buf wr g (bs.take p ++ t ++ bs.drop n)
  len : p + t.length = n
  dig : t = low i v
  val : x = v / 10 ^ i
  flag : b = true ↔ v % 10 ^ i ≠ 0
  only : w.grownBy wr (some g)
  size : wr.heap.size = w.heap.size

theorem FracInv.write {g n v : Nat} {bs : List Int} {w wr : World} {x p : Nat} {b : Bool} {i : Nat} {t : List Int} (h : FracInv g n v bs w wr x (p + 1) b i t) (hl : bs.length = 32) (hn : n ≤ 32)
    (hx : b = true ∨ x % 10 ≠ 0) : FracInv g n v bs w (wr.setCell ⟨g, p, none⟩ (.int .u8 ((x : Int) % 10 + 48))) (x / 10) p true (i + 1) (((x : Int) % 10 + 48) :: t) := by
  obtain ⟨h1, h2, h3, h4, h5, h6, h7⟩ := h
  have hne : v % 10 ^ (i + 1) ≠ 0 := by
    rw [mod_pow_succ, ← h4]
    rcases hx with hx | hx
    · have := h5.1 hx; omega
    · have : 0 < 10 ^ i * (x % 10) := Nat.mul_pos (Nat.pow_pos (by omega)) (by omega)
      omega
  refine ⟨?_, ?_, ?_, ?_, ?_, only_set h6 _ _, by rw [size_set, h7]⟩
  · have := h1.set_ p ((x : Int) % 10 + 48)
    rwa [set_mid bs t p n _ (by omega)] at this
  · simp; omega
  · rw [low, if_neg hne, ← h3, ← h4]
    congr 1; omega
  · rw [h4, Nat.div_div_eq_div_mul, Nat.pow_succ]
  · simp [hne]

theorem FracInv.pass {g n v : Nat} {bs : List Int} {w wr : World} {x p : Nat} {i : Nat} {t : List Int} (h : FracInv g n v bs w wr x p false i t)
    (hx : x % 10 = 0) : FracInv g n v bs w wr (x / 10) p false (i + 1) t := by
  obtain ⟨h1, h2, h3, h4, h5, h6, h7⟩ := h
  have h0 : v % 10 ^ i = 0 := by
    by_cases hc : v % 10 ^ i = 0
    · exact hc
    · exact absurd (h5.2 hc) (by simp)
  have hne : v % 10 ^ (i + 1) = 0 := by
    rw [mod_pow_succ, ← h4, hx, h0]; simp
  refine ⟨h1, h2, ?_, ?_, ?_, h6, h7⟩
  · rw [h3, low_zero _ _ h0, low_zero _ _ hne]
  · rw [h4, Nat.div_div_eq_div_mul, Nat.pow_succ]
  · simp [hne]

set_option maxHeartbeats 800000 in
theorem fmtFrac_any (g n v prec : Nat) (bs : List Int) (w : World) (hb : Buf w g bs) (hl : bs.length = 32) (hn : n ≤ 32) (hd : prec + 1 ≤ n) (hv2 : v < 18446744073709551616) :
    Calls Tryd.prog 47 #[.slice (some ⟨g, 0, none⟩) n 32, .int .u64 v, .int .i64 prec] w fun e w' => e = .returned (.tuple #[.int .i64 ((n : Int) - (frac prec v).length), .int .u64 ((v / 10 ^ prec : Nat) : Int)]) ∧
      Buf w' g (bs.take (n - (frac prec v).length) ++ frac prec v ++ bs.drop n) ∧ w.grownBy w' (some g) ∧ w'.heap.size = w.heap.size := by
  have Hl := Lib.hid hl
  clear hl
  go_enter Tryd.func47, Tryd.ntmps47
  go_wp2_with fail
  go_loopw [1, 8, 9, 10] (fun a c d f wr => ∃ (x p : Nat) (b : Bool) (i : Nat) (t : List Int), a = .int .u64 x ∧ c = .int .i64 p ∧ d = .bool b ∧ f = .int .i64 i ∧ i ≤ prec ∧ x ≤ v ∧ FracInv g n v bs w wr x p b i t) (fun _ _ _ f _ => prec - (intOf f).toNat)
  case atStart => exact ⟨v, n, false, 0, [], rfl, rfl, rfl, rfl, Nat.zero_le _, Nat.le_refl _, by simpa using hb, by simp, rfl, by simp, by simp [Nat.mod_one], World.grownBy.refl w _, rfl⟩
  case round =>
    obtain ⟨x, p, b, i, t, rfl, rfl, rfl, rfl, hip, hxv, hi⟩ := hrel
    by_cases hlt : i < prec
    · have h1 := hi.len
      have h2 : t.length ≤ i := by rw [hi.dig]; exact low_len i v
      obtain ⟨q, rfl⟩ : ∃ q, p = q + 1 := ⟨p - 1, by omega⟩
      have hbl : q < (bs.take (q + 1) ++ t ++ bs.drop n).length := by simp [Hl.out]; omega
      obtain ⟨ov, hc⟩ : ∃ ov, wr.cell? ⟨g, q, none⟩ = some ov := ⟨_, hi.buf.cell q hbl⟩
      have hf := hi.buf.frozen q
      clear hbl
      by_cases hx : x % 10 = 0
      · have hx0 : ((x : Int) % 10 != 0) = false := by simp; omega
        have hx1 : ((x : Int) % 10 == 0) = true := by simp; omega
        clear hx
        cases b
        · have hst := hi.pass (by simp at hx1; omega)
          go_wp2
          exact ⟨⟨x / 10, q + 1, false, i + 1, t, by simp, by simp, rfl, by simp, by omega, by omega, hst⟩, by simp [intOf]; omega⟩
        · have hst := hi.write Hl.out hn (.inl rfl)
          go_wp2
          exact ⟨⟨x / 10, q, true, i + 1, _, by simp, by simp, rfl, by simp, by omega, by omega, hst⟩, by simp [intOf]; omega⟩
      · have hst := hi.write Hl.out hn (.inr hx)
        have hx0 : ((x : Int) % 10 != 0) = true := by simp; omega
        have hx1 : ((x : Int) % 10 == 0) = false := by simp; omega
        clear hx
        cases b
        · go_wp2
          exact ⟨⟨x / 10, q, true, i + 1, _, by simp, by simp, rfl, by simp, by omega, by omega, hst⟩, by simp [intOf]; omega⟩
        · go_wp2
          exact ⟨⟨x / 10, q, true, i + 1, _, by simp, by simp, rfl, by simp, by omega, by omega, hst⟩, by simp [intOf]; omega⟩
    · obtain rfl : i = prec := by omega
      have ht := hi.dig
      subst ht
      have h1 := hi.len
      have h2 := low_len i v
      have hx := hi.val
      subst hx
      cases b
      · have h0 : v % 10 ^ i = 0 := by
          by_cases hc : v % 10 ^ i = 0
          · exact hc
          · exact absurd (hi.flag.2 hc) (by simp)
        have H0 := Lib.hid h0
        clear h0
        have hbuf := hi.buf
        go_wp2
        go_ret2
        have e1 : frac i v = [] := if_pos H0.out
        rw [low_zero _ _ H0.out] at hbuf h1
        simp only [List.length_nil, Nat.add_zero] at h1
        subst h1
        exact ⟨by rw [e1]; simp, by rw [e1]; simpa using hbuf, hi.only, hi.size⟩
      · have h0 := hi.flag.1 rfl
        obtain ⟨q, rfl⟩ : ∃ q, p = q + 1 := ⟨p - 1, by omega⟩
        have hbl : q < (bs.take (q + 1) ++ low i v ++ bs.drop n).length := by simp [Hl.out]; omega
        obtain ⟨ov, hc⟩ : ∃ ov, wr.cell? ⟨g, q, none⟩ = some ov := ⟨_, hi.buf.cell q hbl⟩
        have hf := hi.buf.frozen q
        have hst := hi.buf.set_ q 46
        have hm := set_mid bs (low i v) q n 46 (by rw [Hl.out]; omega)
        rw [hm] at hst
        clear hbl hm
        have H0 := Lib.hid h0
        clear h0
        go_wp2
        go_ret2
        have e1 : frac i v = 46 :: low i v := if_neg H0.out
        have e2 : n - (frac i v).length = q := by rw [e1]; simp; omega
        refine ⟨?_, ?_, only_set hi.only _ _, by rw [size_set, hi.size]⟩
        · rw [show (n : Int) - (frac i v).length = q by rw [e1]; simp; omega]; rfl
        · rw [e2, e1]; exact hst
end Go.Proofs.YtjkmidohcidkiaaDoor.Fmt
