/-
  THE RESTATEMENT OF transform (zzs3009cmodel), PLAINLY, AND THAT IT IS transform. No Go in sight.
-/
import Derived.Test.YbulkbjhgDoorTrip
namespace Go.Proofs.YbulkbjhgDoor.Ec

/-- The restatement's second loop: places 0 .. k - 1 put through E, their xor gathered. -/
def cm2 (E : UInt8 → UInt8) (d : Array UInt8) : Nat → Array UInt8 × UInt8
  | 0 => (d, 0)
  | k + 1 => ((cm2 E d k).1.setIfInBounds k (E (cm2 E d k).1[k]!), (cm2 E d k).2 ^^^ E (cm2 E d k).1[k]!)
theorem size_cm2 (E : UInt8 → UInt8) (d : Array UInt8) (k : Nat) : (cm2 E d k).1.size = d.size := by
  induction k with
  | zero => rfl
  | succ k ih => rw [cm2]; simpa using ih
/-- The restatement's third loop: the output's places 1 .. k. -/
def cm3 (acc : UInt8) (m o : Array UInt8) : Nat → Array UInt8
  | 0 => o
  | k + 1 => (cm3 acc m o k).setIfInBounds (k + 1) (m[k + 1]! ^^^ acc)
theorem size_cm3 (acc : UInt8) (m o : Array UInt8) (k : Nat) : (cm3 acc m o k).size = o.size := by
  induction k with
  | zero => rfl
  | succ k ih => rw [cm3]; simpa using ih
/-- The restatement. -/
def cmod (E : UInt8 → UInt8) (a b : UInt8) (d : Array UInt8) : Array UInt8 :=
  let n := d.size
  let d1 := mid E (rotrN (n - 1) a) (tr1 E b a d n)
  let r := cm2 E d1 n
  cm3 r.2 r.1 ((Array.replicate n 0).setIfInBounds 0 r.2) (n - 1)
theorem size_cmod (E : UInt8 → UInt8) (a b : UInt8) (d : Array UInt8) : (cmod E a b d).size = d.size := by
  simp [cmod, size_cm3]

theorem cm2_get (E : UInt8 → UInt8) (d : Array UInt8) (k : Nat) (hk : k ≤ d.size) (t : Nat) : (cm2 E d k).1[t]! = if t < k then E d[t]! else d[t]! := by
  induction k with
  | zero => rw [cm2, if_neg (by omega)]
  | succ k ih =>
    have ih := ih (by omega)
    rw [cm2]
    simp only
    by_cases h : t = k
    · subst h
      rw [get_set_same _ _ _ (by rw [size_cm2]; omega), if_pos (by omega), ih, if_neg (by omega)]
    · rw [get_set_other _ _ _ _ h, ih]
      by_cases h2 : t < k
      · rw [if_pos h2, if_pos (by omega)]
      · rw [if_neg h2, if_neg (by omega)]
theorem cm2_acc (E : UInt8 → UInt8) (d : Array UInt8) (k : Nat) (hk : k + 1 ≤ d.size) : (cm2 E d (k + 1)).2 = xs (fun j => E d[j]!) (E d[0]!) k := by
  induction k with
  | zero =>
    rw [cm2, cm2, xs]
    simp only
    rw [UInt8.zero_xor]
  | succ k ih =>
    rw [cm2]
    simp only
    rw [ih (by omega), cm2_get E d (k + 1) (by omega), if_neg (by omega), xs]
theorem cm3_get (acc : UInt8) (m o : Array UInt8) (k : Nat) (hk : k < o.size) (t : Nat) : (cm3 acc m o k)[t]! = if 1 ≤ t ∧ t ≤ k then m[t]! ^^^ acc else o[t]! := by
  induction k with
  | zero => rw [cm3, if_neg (by omega)]
  | succ k ih =>
    have ih := ih (by omega)
    rw [cm3]
    by_cases h : t = k + 1
    · subst h
      rw [get_set_same _ _ _ (by rw [size_cm3]; exact hk), if_pos (by omega)]
    · rw [get_set_other _ _ _ _ h, ih]
      by_cases h2 : 1 ≤ t ∧ t ≤ k
      · rw [if_pos h2, if_pos (by omega)]
      · rw [if_neg h2, if_neg (by omega)]

/-- THE RESTATEMENT IS transform. -/
theorem cmod_is (E : UInt8 → UInt8) (a b : UInt8) (d : Array UInt8) (h : 1 ≤ d.size) : cmod E a b d = transform E a b d := by
  apply ext_get
  · rw [size_cmod, size_transform]
  · intro t ht
    rw [size_cmod] at ht
    unfold cmod transform
    simp only
    obtain ⟨d1, hd1⟩ : ∃ d1, mid E (rotrN (d.size - 1) a) (tr1 E b a d d.size) = d1 := ⟨_, rfl⟩
    have hs1 : d1.size = d.size := by rw [← hd1, size_mid, size_tr1]
    rw [hd1]
    have hacc : (cm2 E d1 d.size).2 = (tr2 E d1 (E d1[0]!) (d.size - 1)).2 := by
      rw [tr2_acc _ _ _ _ (by omega), ← cm2_acc E d1 (d.size - 1) (by omega), show d.size - 1 + 1 = d.size by omega]
    rw [hacc]
    obtain ⟨acc, ha⟩ : ∃ acc, (tr2 E d1 (E d1[0]!) (d.size - 1)).2 = acc := ⟨_, rfl⟩
    rw [ha]
    rw [cm3_get _ _ _ _ (by simp; omega), tr3_get _ _ _ (by simp [size_tr2]; omega)]
    by_cases h0 : t = 0
    · subst h0
      rw [if_neg (by omega), if_neg (by omega), get_set_same _ _ _ (by simp; omega), get_set_same _ _ _ (by rw [size_tr2]; omega)]
    · rw [if_pos (by omega), if_pos (by omega), get_set_other _ _ _ _ h0, cm2_get _ _ _ (by omega), if_pos ht, tr2_get _ _ _ _ (by omega), if_pos (by omega)]
#print axioms cmod_is
end Go.Proofs.YbulkbjhgDoor.Ec
