/- Plain: how near the scaled boundaries of floats come to whole numbers, for each exponent: checked by the kernel. -/
import Derived.Test.YtcfknhboicomjaaGreatDoorFar
namespace Go.Proofs.YtcfknhboicomjaaGreatDoor.Fy

/-- Neighbours a/b < n/m < c/d, walked on till b + d is at least B. -/
def fy (n m B : Nat) : Nat → Nat → Nat → Nat → Nat → Nat × Nat × Nat × Nat
  | 0, a, b, c, d => (a, b, c, d)
  | f + 1, a, b, c, d =>
    if B ≤ b + d then (a, b, c, d) else
    let X := n * b - a * m
    let Y := c * m - n * d
    if Y < X then let k := min ((X - 1) / Y) ((B - b) / d); fy n m B f (a + k * c) (b + k * d) c d
    else let k := min ((Y - 1) / X) ((B - d) / b); fy n m B f a b (c + k * a) (d + k * b)

def good (n m B L k : Nat) : Bool :=
  let q := fy n m B 300 (n / m) 1 (n / m + 1) 1
  let a := q.1
  let b := q.2.1
  let c := q.2.2.1
  let d := q.2.2.2
  b * c == a * d + 1 && decide (0 < b) && decide (0 < d) && decide (B ≤ b + d) && decide (a * m < n * b) && decide (n * d < c * m) && decide (m * b ≤ L * (n * b - a * m) * 2 ^ k) && decide (m * d ≤ L * (c * m - n * d) * 2 ^ k)
/-- Each x from L on below B: x n / m is whole, or at least 2^-k off every whole number. -/
def chk (n m B L k : Nat) : Bool :=
  let g := Nat.gcd n m
  decide (m / g ≤ 2 ^ k) || good (n / g) (m / g) B L k

def lg (x : Int) : Int := x * 78913 / 262144
def sk (x : Int) : Int := (x * 631305 - 261663) / 2097152
def l2 (x : Int) : Int := x * 108853 / 32768
/-- 2^a 10^b above and below the line. -/
def up (a b : Int) : Nat := 2 ^ a.toNat * 10 ^ b.toNat
def sOf (E p : Int) : Int := -(E - 11 + l2 p + 3)
def chkE (E p : Int) : Bool := decide (0 ≤ sOf E p) && chk (up E p) (up (-E) (-p)) (2 ^ 55 + 3) (2 ^ 54 - 2) (63 + (sOf E p).toNat)
def allE : Nat → Bool
  | 0 => true
  | i + 1 => chkE ((i : Int) - 1074) (-lg ((i : Int) - 1074)) && chkE ((i : Int) - 1074) (-sk ((i : Int) - 1074)) && allE i



theorem all_E : allE 2046 = true := by decide +kernel
end Go.Proofs.YtcfknhboicomjaaGreatDoor.Fy
