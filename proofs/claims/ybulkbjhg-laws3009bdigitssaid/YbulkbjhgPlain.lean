/-
  THE PLAIN FUNCTIONS: decimal digits, the number that they spell modulo 2^64, its eight octets, the schoolbook model. No Go in sight.
-/
namespace Go.Proofs.Ybulkbjhg.Ak

/-- A decimal digit, as a byte. -/
def isD (c : UInt8) : Bool := decide (48 ≤ c.toNat) && decide (c.toNat ≤ 57)
/-- Nothing but digits. -/
def dec (l : List UInt8) : Bool := l.all isD
/-- One digit more. -/
def numStep (n : Nat) (c : UInt8) : Nat := (n * 10 + (c - 48).toNat) % 18446744073709551616
/-- The number modulo 2^64. -/
def num (l : List UInt8) : Nat := l.foldl numStep 0
theorem numStep_lt (n : Nat) (c : UInt8) : numStep n c < 18446744073709551616 := Nat.mod_lt _ (by decide)
theorem num_snoc (l : List UInt8) (c : UInt8) : num (l ++ [c]) = numStep (num l) c := by simp [num]
theorem num_lt (l : List UInt8) : num l < 18446744073709551616 := by
  rcases List.eq_nil_or_concat l with rfl | ⟨l', c, rfl⟩
  · decide
  · rw [List.concat_eq_append, num_snoc]; exact numStep_lt _ _

/-- Octet i of eight, the most significant first. -/
def oct (n i : Nat) : UInt8 := UInt8.ofNat (n / 256 ^ (7 - i))
/-- The eight octets. -/
def octs (n : Nat) : Array UInt8 := #[oct n 0, oct n 1, oct n 2, oct n 3, oct n 4, oct n 5, oct n 6, oct n 7]

/-- THE MODEL's INNER LOOP: k places done, from the last one down: the octets and the carry. -/
def inn (a : Array UInt8) (c : Nat) : Nat → Array UInt8 × Nat
  | 0 => (a, c)
  | k + 1 =>
    let r := inn a c k
    let v := r.1[7 - k]!.toNat * 10 + r.2
    (r.1.setIfInBounds (7 - k) (UInt8.ofNat v), v / 256)
theorem size_inn (a : Array UInt8) (c k : Nat) : (inn a c k).1.size = a.size := by
  induction k with
  | zero => rfl
  | succ k ih => rw [inn]; simpa using ih
theorem carry_lt (a : Array UInt8) (c k : Nat) (hc : c < 256) : (inn a c k).2 < 256 := by
  induction k with
  | zero => exact hc
  | succ k ih =>
    rw [inn]
    simp only
    have := ((inn a c k).1[7 - k]!).toNat_lt
    omega
end Go.Proofs.Ybulkbjhg.Ak
