/-
  THE PLAIN LAW: one digit more in the schoolbook model is one digit more in the number modulo 2^64. No Go in sight.
-/
import Derived.Test.YbulkbjhgPlain
namespace Go.Proofs.Ybulkbjhg.Ak

theorem ofNat_eq {a b : Nat} (h : a % 256 = b % 256) : UInt8.ofNat a = UInt8.ofNat b := by
  apply UInt8.toNat_inj.1
  rw [UInt8.toNat_ofNat', UInt8.toNat_ofNat']
  exact h
theorem get_set_same (d : Array UInt8) (i : Nat) (x : UInt8) (h : i < d.size) : (d.setIfInBounds i x)[i]! = x := by
  rw [getElem!_pos _ i (by simpa using h), Array.getElem_setIfInBounds, if_pos rfl]
  exact h
theorem get_set_other (d : Array UInt8) (i j : Nat) (x : UInt8) (h : j ≠ i) : (d.setIfInBounds i x)[j]! = d[j]! := by
  by_cases hj : j < d.size
  · rw [getElem!_pos _ j (by simpa using hj), getElem!_pos d j hj, Array.getElem_setIfInBounds, if_neg (Ne.symm h)]
  · rw [getElem!_neg _ j (by simpa using hj), getElem!_neg d j hj]
theorem ext_get (d d' : Array UInt8) (hs : d.size = d'.size) (h : ∀ j, j < d.size → d[j]! = d'[j]!) : d = d' := by
  apply Array.ext hs
  intro j h1 h2
  have := h j h1
  rwa [getElem!_pos d j h1, getElem!_pos d' j h2] at this
theorem octs_get (n i : Nat) (h : i < 8) : (octs n)[i]! = oct n i := by
  have hc : i = 0 ∨ i = 1 ∨ i = 2 ∨ i = 3 ∨ i = 4 ∨ i = 5 ∨ i = 6 ∨ i = 7 := by omega
  rcases hc with rfl | rfl | rfl | rfl | rfl | rfl | rfl | rfl <;> rfl
theorem oct_mod (n i : Nat) (h : i < 8) : oct (n % 18446744073709551616) i = oct n i := by
  unfold oct
  apply ofNat_eq
  have e : (18446744073709551616 : Nat) = 256 ^ (7 - i) * 256 ^ (i + 1) := by
    rw [← Nat.pow_add, show 7 - i + (i + 1) = 8 by omega]
  rw [e, Nat.mod_mul_right_div_self, Nat.pow_succ, Nat.mul_comm (256 ^ i), Nat.mod_mul_right_mod]

/-- One place. -/
theorem place (N d B : Nat) (hB : 0 < B) :
    N / B % 256 * 10 + (10 * (N % B) + d) / B = (10 * (N % (B * 256)) + d) / B ∧
    (10 * (N % (B * 256)) + d) / B / 256 = (10 * (N % (B * 256)) + d) / (B * 256) ∧
    (10 * (N % (B * 256)) + d) / B % 256 = (10 * N + d) / B % 256 := by
  refine ⟨?_, Nat.div_div_eq_div_mul _ _ _, ?_⟩
  · rw [Nat.mod_mul, show 10 * (N % B + B * (N / B % 256)) + d = (10 * (N % B) + d) + B * (N / B % 256 * 10) by
      rw [Nat.mul_add, ← Nat.mul_assoc, Nat.mul_comm 10 B, Nat.mul_assoc, Nat.mul_comm 10 (N / B % 256)]; omega, Nat.add_mul_div_left _ _ hB]
    omega
  · have h := Nat.mod_add_div N (B * 256)
    have h2 : 10 * N + d = (10 * (N % (B * 256)) + d) + B * (256 * (10 * (N / (B * 256)))) := by
      have : 10 * N = 10 * (N % (B * 256) + B * 256 * (N / (B * 256))) := by rw [h]
      rw [this, Nat.mul_add]
      have e : 10 * (B * 256 * (N / (B * 256))) = B * (256 * (10 * (N / (B * 256)))) := by
        generalize N / (B * 256) = q
        rw [Nat.mul_left_comm 10, Nat.mul_assoc]
      omega
    rw [h2, Nat.add_mul_div_left _ _ hB, Nat.add_mul_mod_self_left]

theorem inn_is (N d k : Nat) (hk : k ≤ 8) : (inn (octs N) d k).2 = (10 * (N % 256 ^ k) + d) / 256 ^ k ∧ ∀ i, i < 8 → (inn (octs N) d k).1[i]! = if 8 ≤ i + k then oct (10 * N + d) i else oct N i := by
  induction k with
  | zero =>
    refine ⟨by simp [inn, Nat.mod_one], fun i hi => ?_⟩
    rw [inn, if_neg (by omega)]
    exact octs_get N i hi
  | succ k ih =>
    obtain ⟨hc, hg⟩ := ih (by omega)
    have h7 := hg (7 - k) (by omega)
    rw [if_neg (by omega)] at h7
    have hs : (inn (octs N) d k).1.size = 8 := by rw [size_inn]; rfl
    obtain ⟨p1, p2, p3⟩ := place N d (256 ^ k) (Nat.pow_pos (by decide))
    have hv : (inn (octs N) d k).1[7 - k]!.toNat * 10 + (inn (octs N) d k).2 = (10 * (N % (256 ^ k * 256)) + d) / 256 ^ k := by
      rw [h7, hc, oct, UInt8.toNat_ofNat', show 7 - (7 - k) = k by omega]
      exact p1
    rw [inn]
    simp only
    rw [hv]
    refine ⟨by rw [Nat.pow_succ]; exact p2, fun i hi => ?_⟩
    by_cases h : i = 7 - k
    · subst h
      rw [get_set_same _ _ _ (by omega), if_pos (by omega), oct, show 7 - (7 - k) = k by omega]
      exact ofNat_eq p3
    · rw [get_set_other _ _ _ _ h, hg i hi]
      by_cases h2 : 8 ≤ i + k
      · rw [if_pos h2, if_pos (by omega)]
      · rw [if_neg h2, if_neg (by omega)]

/-- ONE DIGIT MORE. -/
theorem inn_octs (N : Nat) (c : UInt8) : (inn (octs N) (c - 48).toNat 8).1 = octs (numStep N c) := by
  apply ext_get
  · rw [size_inn]; rfl
  · intro j hj
    have hj8 : j < 8 := by rw [size_inn] at hj; exact hj
    rw [(inn_is N _ 8 (Nat.le_refl _)).2 j hj8, if_pos (by omega), octs_get _ _ hj8, numStep, oct_mod _ _ hj8, Nat.mul_comm N 10]
#print axioms inn_octs
end Go.Proofs.Ybulkbjhg.Ak
