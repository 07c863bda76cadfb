/-
  untransform, PLAINLY: no Go in sight.
-/
import Derived.Test.YbulkbjhgDoorPlain
namespace Go.Proofs.YbulkbjhgDoor.Ec

/-- untransform's first loop: places 1 .. k xored with place 0. -/
def un1 (d : Array UInt8) : Nat → Array UInt8
  | 0 => d
  | k + 1 => (un1 d k).setIfInBounds (k + 1) ((un1 d k)[k + 1]! ^^^ (un1 d k)[0]!)
theorem size_un1 (d : Array UInt8) (k : Nat) : (un1 d k).size = d.size := by
  induction k with
  | zero => rfl
  | succ k ih => rw [un1]; simpa using ih
/-- untransform's second loop: place 0 gathers places 1 .. k, each of which is then put through E. -/
def un2 (E : UInt8 → UInt8) (d : Array UInt8) : Nat → Array UInt8
  | 0 => d
  | k + 1 => ((un2 E d k).setIfInBounds 0 ((un2 E d k)[0]! ^^^ (un2 E d k)[k + 1]!)).setIfInBounds (k + 1) (E (un2 E d k)[k + 1]!)
theorem size_un2 (E : UInt8 → UInt8) (d : Array UInt8) (k : Nat) : (un2 E d k).size = d.size := by
  induction k with
  | zero => rfl
  | succ k ih => rw [un2]; simpa using ih
/-- ONE ROUND OF untransform's LAST LOOP, at place i. -/
def roundU (E : UInt8 → UInt8) (b a : UInt8) (i : Nat) (d : Array UInt8) : Array UInt8 :=
  let d1 := if 1 < i then swap d (kidx E i d[i]! a) (i - 1) else d
  let d2 := if 0 < i then trade E d1 i a else d1
  d2.setIfInBounds i (a ^^^ E (d2[i]! ^^^ b))
theorem size_roundU (E : UInt8 → UInt8) (b a : UInt8) (i : Nat) (d : Array UInt8) : (roundU E b a i d).size = d.size := by
  unfold roundU
  simp only
  split <;> split <;> simp [size_swap, size_trade]
/-- The last loop: places k - 1 .. 0. -/
def un3 (E : UInt8 → UInt8) (b : UInt8) : Nat → UInt8 → Array UInt8 → Array UInt8
  | 0, _, d => d
  | k + 1, a, d => un3 E b k (rotl a) (roundU E b a k d)
theorem size_un3 (E : UInt8 → UInt8) (b : UInt8) (k : Nat) (a : UInt8) (d : Array UInt8) : (un3 E b k a d).size = d.size := by
  induction k generalizing a d with
  | zero => rfl
  | succ k ih => rw [un3, ih, size_roundU]
/-- What untransform's last loop begins with. -/
def unMid (E : UInt8 → UInt8) (a : UInt8) (d : Array UInt8) : Array UInt8 :=
  let d1 := un2 E (un1 d (d.size - 1)) (d.size - 1)
  mid E a (d1.setIfInBounds 0 (E d1[0]!))
/-- untransform. -/
def untransform (E : UInt8 → UInt8) (a b : UInt8) (d : Array UInt8) : Array UInt8 :=
  un3 E b d.size (rotrN ((d.size - 1) % 8) a) (unMid E (rotrN ((d.size - 1) % 8) a) d)
theorem size_unMid (E : UInt8 → UInt8) (a : UInt8) (d : Array UInt8) : (unMid E a d).size = d.size := by
  simp [unMid, size_mid, size_un2, size_un1]
theorem size_untransform (E : UInt8 → UInt8) (a b : UInt8) (d : Array UInt8) : (untransform E a b d).size = d.size := by
  rw [untransform, size_un3, size_unMid]
end Go.Proofs.YbulkbjhgDoor.Ec
