/- Plain: strconv's table of powers of ten: each row is the power, cut to 128 bits, rounded up. -/
import GoSem.PinnedTables
import Derived.Test.YtcfknhboicomjaaGreatDoorNear
import Derived.Test.YtcfknhboicomjaaGreatDoorScale
namespace Go.Proofs.YtcfknhboicomjaaGreatDoor.Fy

def rowOf (p : Int) : Nat × Nat := Go.Pinned.pow10Rows.getD (p + 348).toNat (0, 0)
def rowOk (p : Int) (x : Nat × Nat) : Bool :=
  decide (x.1 < 2 ^ 64) && decide (x.2 < 2 ^ 64) && decide (x.2 ≤ x.1 * 2 ^ 64) &&
  decide (up (127 - l2 p) p ≤ (x.1 * 2 ^ 64 - x.2) * up (l2 p - 127) (-p)) &&
  decide ((x.1 * 2 ^ 64 - x.2) * up (l2 p - 127) (-p) < up (127 - l2 p) p + up (l2 p - 127) (-p)) &&
  decide (up (l2 p) 0 * up 0 (-p) ≤ up 0 p * up (-l2 p) 0) && decide (up 0 p * up (-l2 p) 0 * (2 ^ 20 + 1) ≤ up (l2 p) 0 * up 0 (-p) * 2 ^ 21)
def rowsOk : Nat → List (Nat × Nat) → Bool
  | _, [] => true
  | i, x :: r => rowOk ((i : Int) - 348) x && rowsOk (i + 1) r
theorem rows_len : Go.Pinned.pow10Rows.length = 696 := by decide +kernel
theorem rows_ok : rowsOk 0 Go.Pinned.pow10Rows = true := by decide +kernel
theorem rows_at : ∀ (l : List (Nat × Nat)) (i j : Nat), rowsOk i l = true → (h : j < l.length) → rowOk (((i + j : Nat) : Int) - 348) l[j] = true
  | [], i, j, _, h => absurd h (by simp)
  | x :: r, i, 0, hr, _ => by
    simp only [rowsOk, Bool.and_eq_true] at hr
    simpa using hr.1
  | x :: r, i, j + 1, hr, h => by
    simp only [rowsOk, Bool.and_eq_true] at hr
    have := rows_at r (i + 1) j hr.2 (by simpa using h)
    rw [show i + (j + 1) = i + 1 + j by omega]
    simpa using this
theorem row_ok (p : Int) (h0 : -348 ≤ p) (h1 : p ≤ 347) : rowOk p (rowOf p) = true := by
  have hl : (p + 348).toNat < Go.Pinned.pow10Rows.length := by rw [rows_len]; omega
  have := rows_at Go.Pinned.pow10Rows 0 (p + 348).toNat rows_ok hl
  have e : (((0 + (p + 348).toNat : Nat) : Int) - 348) = p := by omega
  rw [e] at this
  unfold rowOf
  rw [List.getD_eq_getElem?_getD, List.getElem?_eq_getElem hl]
  exact this
end Go.Proofs.YtcfknhboicomjaaGreatDoor.Fy
