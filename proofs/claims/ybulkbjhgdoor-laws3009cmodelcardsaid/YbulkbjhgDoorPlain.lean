/-
  THE PLAIN FUNCTIONS OF ECMEA's FIRST AND LAST STEP, over bytes: no Go in sight.
-/
namespace Go.Proofs.YbulkbjhgDoor.Ec

/-- One round of etbox on the way up: key octet j. -/
def stepU (I K : Nat → UInt8) (j : Nat) (t : UInt8) : UInt8 := if j % 2 = 0 then I t.toNat + K j else I t.toNat ^^^ K j
/-- One round of etbox on the way down. -/
def stepD (I K : Nat → UInt8) (j : Nat) (t : UInt8) : UInt8 := if j % 2 = 0 then I t.toNat - K j else I t.toNat ^^^ K j
/-- The way up: key octets 1 .. n. -/
def upT (I K : Nat → UInt8) (t0 : UInt8) : Nat → UInt8
  | 0 => t0
  | n + 1 => stepU I K (n + 1) (upT I K t0 n)
/-- The way down: key octets n .. 1. -/
def dnF (I K : Nat → UInt8) : Nat → UInt8 → UInt8
  | 0, t => t
  | n + 1, t => dnF I K n (stepD I K (n + 1) t)
/-- etbox under the key octets K 0 .. K (L - 1). -/
def et (I K : Nat → UInt8) (L : Nat) (z : UInt8) : UInt8 := I (dnF I K (L - 2) (upT I K (z + K 0) (L - 1))).toNat - K 0

theorem add_int (x y : UInt8) : ((x.toNat : Int) + y.toNat) % 256 = ((x + y).toNat : Int) := by
  rw [UInt8.toNat_add]; omega
theorem sub_int (x y : UInt8) : ((x.toNat : Int) - y.toNat) % 256 = ((x - y).toNat : Int) := by
  have hx := x.toNat_lt; have hy := y.toNat_lt
  rw [UInt8.toNat_sub]; omega

/-- One bit to the right, round. -/
def rotr (x : UInt8) : UInt8 := (x <<< 7) ||| (x >>> 1)
/-- One bit to the left, round. -/
def rotl (x : UInt8) : UInt8 := (x <<< 1) ||| (x >>> 7)
/-- m bits to the right, round. -/
def rotrN : Nat → UInt8 → UInt8
  | 0, x => x
  | m + 1, x => rotr (rotrN m x)

/-- keyedIndex: an index below n. -/
def kidx (E : UInt8 → UInt8) (n : Nat) (v a : UInt8) : Nat := n * (E (v ^^^ a)).toNat / 256

theorem kidx_lt (E : UInt8 → UInt8) (n : Nat) (v a : UInt8) (h : 1 ≤ n) : kidx E n v a < n := by
  have := (E (v ^^^ a)).toNat_lt
  unfold kidx
  have h2 : n * (E (v ^^^ a)).toNat ≤ n * 255 := Nat.mul_le_mul_left _ (by omega)
  omega

/-- tradeBits: between places i - 1 and i. -/
def trade (E : UInt8 → UInt8) (d : Array UInt8) (i : Nat) (a : UInt8) : Array UInt8 :=
  let x := d[i - 1]! ^^^ d[i]!
  let y := x &&& E (x ^^^ a)
  (d.setIfInBounds (i - 1) (d[i - 1]! ^^^ y)).setIfInBounds i (d[i]! ^^^ y)
theorem size_trade (E : UInt8 → UInt8) (d : Array UInt8) (i : Nat) (a : UInt8) : (trade E d i a).size = d.size := by simp [trade]

/-- An exchange of two places. -/
def swap (d : Array UInt8) (i j : Nat) : Array UInt8 := (d.setIfInBounds i d[j]!).setIfInBounds j d[i]!
theorem size_swap (d : Array UInt8) (i j : Nat) : (swap d i j).size = d.size := by simp [swap]

/-- ONE ROUND OF transform's FIRST LOOP, at place i, the offset already turned (a), b the second offset. -/
def roundT (E : UInt8 → UInt8) (b a : UInt8) (i : Nat) (d : Array UInt8) : Array UInt8 :=
  let d1 := d.setIfInBounds i (b ^^^ E (d[i]! ^^^ a))
  let d2 := if 0 < i then trade E d1 i a else d1
  if 1 < i then swap d2 (kidx E i d2[i]! a) (i - 1) else d2
theorem size_roundT (E : UInt8 → UInt8) (b a : UInt8) (i : Nat) (d : Array UInt8) : (roundT E b a i d).size = d.size := by
  unfold roundT
  simp only
  split <;> split <;> simp [size_swap, size_trade]
/-- The first k rounds. -/
def tr1 (E : UInt8 → UInt8) (b a : UInt8) (d : Array UInt8) : Nat → Array UInt8
  | 0 => d
  | k + 1 => roundT E b (rotrN k a) k (tr1 E b a d k)
theorem size_tr1 (E : UInt8 → UInt8) (b a : UInt8) (d : Array UInt8) (k : Nat) : (tr1 E b a d k).size = d.size := by
  induction k with
  | zero => rfl
  | succ k ih => rw [tr1, size_roundT, ih]
/-- transform's second loop: places 1 .. k put through E, their xor gathered. -/
def tr2 (E : UInt8 → UInt8) (d : Array UInt8) (acc : UInt8) : Nat → Array UInt8 × UInt8
  | 0 => (d, acc)
  | k + 1 => ((tr2 E d acc k).1.setIfInBounds (k + 1) (E (tr2 E d acc k).1[k + 1]!), (tr2 E d acc k).2 ^^^ E (tr2 E d acc k).1[k + 1]!)
theorem size_tr2 (E : UInt8 → UInt8) (d : Array UInt8) (acc : UInt8) (k : Nat) : (tr2 E d acc k).1.size = d.size := by
  induction k with
  | zero => rfl
  | succ k ih => rw [tr2]; simpa using ih
/-- transform's third loop: places 1 .. k xored with acc. -/
def tr3 (acc : UInt8) (d : Array UInt8) : Nat → Array UInt8
  | 0 => d
  | k + 1 => (tr3 acc d k).setIfInBounds (k + 1) ((tr3 acc d k)[k + 1]! ^^^ acc)
theorem size_tr3 (acc : UInt8) (d : Array UInt8) (k : Nat) : (tr3 acc d k).size = d.size := by
  induction k with
  | zero => rfl
  | succ k ih => rw [tr3]; simpa using ih
/-- The exchange between transform's loops. -/
def mid (E : UInt8 → UInt8) (a : UInt8) (d : Array UInt8) : Array UInt8 := swap d (kidx E d.size 0x37 a) (d.size - 1)
theorem size_mid (E : UInt8 → UInt8) (a : UInt8) (d : Array UInt8) : (mid E a d).size = d.size := size_swap _ _ _
/-- transform. -/
def transform (E : UInt8 → UInt8) (a b : UInt8) (d : Array UInt8) : Array UInt8 :=
  let n := d.size
  let d1 := mid E (rotrN (n - 1) a) (tr1 E b a d n)
  let r := tr2 E d1 (E d1[0]!) (n - 1)
  tr3 r.2 (r.1.setIfInBounds 0 r.2) (n - 1)
theorem size_transform (E : UInt8 → UInt8) (a b : UInt8) (d : Array UInt8) : (transform E a b d).size = d.size := by
  simp [transform, size_tr3, size_tr2, size_mid, size_tr1]
end Go.Proofs.YbulkbjhgDoor.Ec
