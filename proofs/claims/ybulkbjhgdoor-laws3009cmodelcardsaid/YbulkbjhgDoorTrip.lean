/-
  THE PLAIN LAW: untransform undoes transform, where the octet function is its own inverse. No Go in sight.
-/
import Derived.Test.YbulkbjhgDoorPlainU
namespace Go.Proofs.YbulkbjhgDoor.Ec

/-! ### Places of an array -/
theorem get_set_same (d : Array UInt8) (i : Nat) (x : UInt8) (h : i < d.size) : (d.setIfInBounds i x)[i]! = x := by
  rw [getElem!_pos _ i (by simpa using h), Array.getElem_setIfInBounds, if_pos rfl]
  exact h
theorem get_set_other (d : Array UInt8) (i j : Nat) (x : UInt8) (h : j ≠ i) : (d.setIfInBounds i x)[j]! = d[j]! := by
  by_cases hj : j < d.size
  · rw [getElem!_pos _ j (by simpa using hj), getElem!_pos d j hj, Array.getElem_setIfInBounds, if_neg (Ne.symm h)]
  · rw [getElem!_neg _ j (by simpa using hj), getElem!_neg d j hj]
theorem ext_get (d d' : Array UInt8) (hs : d.size = d'.size) (h : ∀ j, j < d.size → d[j]! = d'[j]!) : d = d' := by
  apply Array.ext hs
  intro j h1 h2
  have := h j h1
  rwa [getElem!_pos d j h1, getElem!_pos d' j h2] at this

/-! ### xor -/
theorem xx (x y : UInt8) : x ^^^ y ^^^ y = x := by rw [UInt8.xor_assoc, UInt8.xor_self, UInt8.xor_zero]

/-! ### the exchange and tradeBits undo themselves -/
theorem swap_get (d : Array UInt8) (i j t : Nat) (hi : i < d.size) (hj : j < d.size) : (swap d i j)[t]! = if t = j then d[i]! else if t = i then d[j]! else d[t]! := by
  unfold swap
  by_cases h1 : t = j
  · subst h1
    rw [get_set_same _ _ _ (by simpa using hj), if_pos rfl]
  · rw [get_set_other _ _ _ _ h1, if_neg h1]
    by_cases h2 : t = i
    · subst h2
      rw [get_set_same _ _ _ hi, if_pos rfl]
    · rw [get_set_other _ _ _ _ h2, if_neg h2]
theorem swap_swap (d : Array UInt8) (i j : Nat) (hi : i < d.size) (hj : j < d.size) : swap (swap d i j) i j = d := by
  apply ext_get
  · rw [size_swap, size_swap]
  · intro t _
    rw [swap_get _ _ _ _ (by rw [size_swap]; exact hi) (by rw [size_swap]; exact hj), swap_get _ _ _ i hi hj, swap_get _ _ _ j hi hj, swap_get _ _ _ t hi hj]
    by_cases h1 : t = j
    · subst h1
      simp only [if_true]
      by_cases h2 : i = t
      · subst h2; simp
      · simp [h2]
    · by_cases h2 : t = i
      · subst h2; simp [h1]
      · simp [h1, h2]
theorem trade_get (E : UInt8 → UInt8) (d : Array UInt8) (i : Nat) (a : UInt8) (h1 : 1 ≤ i) (hi : i < d.size) (t : Nat) :
    (trade E d i a)[t]! = if t = i then d[i]! ^^^ ((d[i - 1]! ^^^ d[i]!) &&& E (d[i - 1]! ^^^ d[i]! ^^^ a)) else if t = i - 1 then d[i - 1]! ^^^ ((d[i - 1]! ^^^ d[i]!) &&& E (d[i - 1]! ^^^ d[i]! ^^^ a)) else d[t]! := by
  unfold trade
  simp only
  by_cases h : t = i
  · subst h
    rw [get_set_same _ _ _ (by simpa using hi), if_pos rfl]
  · rw [get_set_other _ _ _ _ h, if_neg h]
    by_cases h2 : t = i - 1
    · subst h2
      rw [get_set_same _ _ _ (by omega), if_pos rfl]
    · rw [get_set_other _ _ _ _ h2, if_neg h2]
theorem trade_trade (E : UInt8 → UInt8) (d : Array UInt8) (i : Nat) (a : UInt8) (h1 : 1 ≤ i) (hi : i < d.size) : trade E (trade E d i a) i a = d := by
  have hx : ∀ x y z : UInt8, (x ^^^ z) ^^^ (y ^^^ z) = x ^^^ y := by
    intro x y z
    rw [UInt8.xor_comm y z, ← UInt8.xor_assoc, xx]
  apply ext_get
  · rw [size_trade, size_trade]
  · intro t _
    have hp : i - 1 ≠ i := by omega
    rw [trade_get _ _ _ _ h1 (by rw [size_trade]; exact hi), trade_get _ _ _ _ h1 hi i, trade_get _ _ _ _ h1 hi (i - 1), trade_get _ _ _ _ h1 hi t]
    simp only [if_true, hp, if_false]
    rw [hx]
    by_cases h : t = i
    · subst h; simp only [if_true]; rw [xx]
    · by_cases h2 : t = i - 1
      · subst h2; simp only [if_true, hp, if_false]; rw [xx]
      · simp only [h, h2, if_false]

/-! ### one round -/
theorem roundU_roundT (E : UInt8 → UInt8) (hE : ∀ z, E (E z) = z) (b a : UInt8) (i : Nat) (d : Array UInt8) (hi : i < d.size) : roundU E b a i (roundT E b a i d) = d := by
  have last : ∀ d1 : Array UInt8, d1 = d.setIfInBounds i (b ^^^ E (d[i]! ^^^ a)) → d1.setIfInBounds i (a ^^^ E (d1[i]! ^^^ b)) = d := by
    rintro d1 rfl
    rw [get_set_same _ _ _ hi, UInt8.xor_comm b, xx, hE, UInt8.xor_comm (d[i]!), ← UInt8.xor_assoc, UInt8.xor_self, UInt8.zero_xor]
    apply ext_get
    · simp
    · intro t _
      by_cases h : t = i
      · subst h; rw [get_set_same _ _ _ (by simpa using hi)]
      · rw [get_set_other _ _ _ _ h, get_set_other _ _ _ _ h]
  obtain ⟨d1, h1⟩ : ∃ d1, d.setIfInBounds i (b ^^^ E (d[i]! ^^^ a)) = d1 := ⟨_, rfl⟩
  have hs1 : d1.size = d.size := by rw [← h1]; simp
  have hl := last d1 h1.symm
  unfold roundT roundU
  simp only [h1]
  by_cases c1 : 1 < i
  · have c0 : 0 < i := by omega
    simp only [c0, c1, if_true]
    obtain ⟨d2, h2⟩ : ∃ d2, trade E d1 i a = d2 := ⟨_, rfl⟩
    have hs2 : d2.size = d.size := by rw [← h2, size_trade, hs1]
    have hj : kidx E i d2[i]! a < i := kidx_lt _ _ _ _ (by omega)
    rw [h2, swap_get _ _ _ i (by omega) (by omega), if_neg (by omega), if_neg (by omega), swap_swap _ _ _ (by omega) (by omega), ← h2, trade_trade _ _ _ _ (by omega) (by omega)]
    exact hl
  · simp only [c1, if_false]
    by_cases c0 : 0 < i
    · simp only [c0, if_true]
      rw [trade_trade _ _ _ _ (by omega) (by omega)]
      exact hl
    · simp only [c0, if_false]
      exact hl

/-! ### rotation -/
theorem rot_facts : ∀ n : Nat, n < 256 → rotl (rotr (UInt8.ofNat n)) = UInt8.ofNat n ∧ rotrN 8 (UInt8.ofNat n) = UInt8.ofNat n := by decide +kernel
theorem rotl_rotr (x : UInt8) : rotl (rotr x) = x := by
  have := (rot_facts x.toNat x.toNat_lt).1
  rwa [UInt8.ofNat_toNat] at this
theorem rotrN_8 (x : UInt8) : rotrN 8 x = x := by
  have := (rot_facts x.toNat x.toNat_lt).2
  rwa [UInt8.ofNat_toNat] at this
theorem rotrN_add (m n : Nat) (x : UInt8) : rotrN (m + n) x = rotrN m (rotrN n x) := by
  induction m with
  | zero => rw [Nat.zero_add]; rfl
  | succ m ih => rw [Nat.succ_add, rotrN, ih, rotrN]
theorem rotrN_8k (k : Nat) (x : UInt8) : rotrN (8 * k) x = x := by
  induction k with
  | zero => rfl
  | succ k ih => rw [Nat.mul_succ, Nat.add_comm, rotrN_add, ih, rotrN_8]
theorem rotrN_mod (n : Nat) (x : UInt8) : rotrN (n % 8) x = rotrN n x := by
  have := rotrN_add (n % 8) (8 * (n / 8)) x
  rw [rotrN_8k, Nat.mod_add_div] at this
  exact this.symm

theorem un3_tr1 (E : UInt8 → UInt8) (hE : ∀ z, E (E z) = z) (b a : UInt8) (d : Array UInt8) (k : Nat) (hk : k ≤ d.size) : un3 E b k (rotrN (k - 1) a) (tr1 E b a d k) = d := by
  induction k with
  | zero => rfl
  | succ k ih =>
    rw [un3, tr1, Nat.add_sub_cancel, roundU_roundT E hE b _ k _ (by rw [size_tr1]; omega)]
    cases k with
    | zero => rfl
    | succ k =>
      have := ih (by omega)
      rw [Nat.add_sub_cancel] at this
      rw [rotrN, rotl_rotr]
      exact this

theorem mid_mid (E : UInt8 → UInt8) (a : UInt8) (d : Array UInt8) (h : 1 ≤ d.size) : mid E a (mid E a d) = d := by
  unfold mid
  rw [size_swap]
  exact swap_swap _ _ _ (kidx_lt _ _ _ _ h) (by omega)

/-! ### the middle part -/
/-- f 1 ^ .. ^ f k ^ c. -/
def xs (f : Nat → UInt8) (c : UInt8) : Nat → UInt8
  | 0 => c
  | k + 1 => xs f c k ^^^ f (k + 1)
theorem xs_out (f : Nat → UInt8) (c x : UInt8) (k : Nat) : xs f (c ^^^ x) k = xs f c k ^^^ x := by
  induction k with
  | zero => rfl
  | succ k ih => rw [xs, ih, xs, UInt8.xor_assoc, UInt8.xor_comm x, ← UInt8.xor_assoc]
theorem xs_xs (f : Nat → UInt8) (c : UInt8) (k : Nat) : xs f (xs f c k) k = c := by
  induction k with
  | zero => rfl
  | succ k ih => rw [xs, xs, xs_out, ih, xx]
theorem xs_congr (f g : Nat → UInt8) (c : UInt8) (k : Nat) (h : ∀ j, 1 ≤ j → j ≤ k → f j = g j) : xs f c k = xs g c k := by
  induction k with
  | zero => rfl
  | succ k ih => rw [xs, xs, ih (fun j h1 h2 => h j h1 (by omega)), h (k + 1) (by omega) (by omega)]

theorem tr2_get (E : UInt8 → UInt8) (d : Array UInt8) (acc : UInt8) (k : Nat) (hk : k < d.size) (t : Nat) : (tr2 E d acc k).1[t]! = if 1 ≤ t ∧ t ≤ k then E d[t]! else d[t]! := by
  induction k with
  | zero => rw [tr2, if_neg (by omega)]
  | succ k ih =>
    have ih := ih (by omega)
    rw [tr2]
    simp only
    by_cases h : t = k + 1
    · subst h
      rw [get_set_same _ _ _ (by rw [size_tr2]; exact hk), if_pos (by omega), ih, if_neg (by omega)]
    · rw [get_set_other _ _ _ _ h, ih]
      by_cases h2 : 1 ≤ t ∧ t ≤ k
      · rw [if_pos h2, if_pos (by omega)]
      · rw [if_neg h2, if_neg (by omega)]
theorem tr2_acc (E : UInt8 → UInt8) (d : Array UInt8) (acc : UInt8) (k : Nat) (hk : k < d.size) : (tr2 E d acc k).2 = xs (fun j => E d[j]!) acc k := by
  induction k with
  | zero => rfl
  | succ k ih =>
    rw [tr2, xs]
    simp only
    rw [ih (by omega), tr2_get E d acc k (by omega), if_neg (by omega)]
theorem tr3_get (acc : UInt8) (d : Array UInt8) (k : Nat) (hk : k < d.size) (t : Nat) : (tr3 acc d k)[t]! = if 1 ≤ t ∧ t ≤ k then d[t]! ^^^ acc else d[t]! := by
  induction k with
  | zero => rw [tr3, if_neg (by omega)]
  | succ k ih =>
    have ih := ih (by omega)
    rw [tr3]
    by_cases h : t = k + 1
    · subst h
      rw [get_set_same _ _ _ (by rw [size_tr3]; exact hk), if_pos (by omega), ih, if_neg (by omega)]
    · rw [get_set_other _ _ _ _ h, ih]
      by_cases h2 : 1 ≤ t ∧ t ≤ k
      · rw [if_pos h2, if_pos (by omega)]
      · rw [if_neg h2, if_neg (by omega)]
theorem un1_get (d : Array UInt8) (k : Nat) (hk : k < d.size) (t : Nat) : (un1 d k)[t]! = if 1 ≤ t ∧ t ≤ k then d[t]! ^^^ d[0]! else d[t]! := by
  induction k generalizing t with
  | zero => rw [un1, if_neg (by omega)]
  | succ k ih =>
    have ih := fun t => ih (by omega) t
    rw [un1]
    by_cases h : t = k + 1
    · subst h
      rw [get_set_same _ _ _ (by rw [size_un1]; exact hk), if_pos (by omega), ih, ih, if_neg (by omega), if_neg (by omega)]
    · rw [get_set_other _ _ _ _ h, ih]
      by_cases h2 : 1 ≤ t ∧ t ≤ k
      · rw [if_pos h2, if_pos (by omega)]
      · rw [if_neg h2, if_neg (by omega)]
theorem un2_get (E : UInt8 → UInt8) (d : Array UInt8) (k : Nat) (hk : k < d.size) (t : Nat) : (un2 E d k)[t]! = if t = 0 then xs (fun j => d[j]!) d[0]! k else if t ≤ k then E d[t]! else d[t]! := by
  induction k generalizing t with
  | zero =>
    rw [un2]
    by_cases h : t = 0
    · subst h; rw [if_pos rfl, xs]
    · rw [if_neg h, if_neg (by omega)]
  | succ k ih =>
    have ih := fun t => ih (by omega) t
    have e1 : (un2 E d k)[k + 1]! = d[k + 1]! := by rw [ih, if_neg (by omega), if_neg (by omega)]
    have e0 : (un2 E d k)[0]! = xs (fun j => d[j]!) d[0]! k := by rw [ih, if_pos rfl]
    rw [un2, e1, e0]
    by_cases h : t = k + 1
    · subst h
      rw [get_set_same _ _ _ (by simpa [size_un2] using hk), if_neg (by omega), if_pos (by omega)]
    · rw [get_set_other _ _ _ _ h]
      by_cases h0 : t = 0
      · subst h0
        rw [get_set_same _ _ _ (by rw [size_un2]; omega), if_pos rfl, xs]
      · rw [get_set_other _ _ _ _ h0, ih, if_neg h0, if_neg h0]
        by_cases h2 : t ≤ k
        · rw [if_pos h2, if_pos (by omega)]
        · rw [if_neg h2, if_neg (by omega)]

/-- What stands behind transform's second exchange is found again. -/
theorem unMid_back (E : UInt8 → UInt8) (hE : ∀ z, E (E z) = z) (d1 : Array UInt8) (n : Nat) (hn : d1.size = n + 1) :
    (fun r : Array UInt8 × UInt8 => (fun q : Array UInt8 => q.setIfInBounds 0 (E q[0]!)) (un2 E (un1 (tr3 r.2 (r.1.setIfInBounds 0 r.2) n) n) n)) (tr2 E d1 (E d1[0]!) n) = d1 := by
  simp only
  obtain ⟨acc, hacc⟩ : ∃ acc, (tr2 E d1 (E d1[0]!) n).2 = acc := ⟨_, rfl⟩
  obtain ⟨da, hda⟩ : ∃ da, (tr2 E d1 (E d1[0]!) n).1 = da := ⟨_, rfl⟩
  rw [hacc, hda]
  have sa : da.size = n + 1 := by rw [← hda, size_tr2, hn]
  have ga : ∀ t, da[t]! = if 1 ≤ t ∧ t ≤ n then E d1[t]! else d1[t]! := fun t => by rw [← hda]; exact tr2_get E d1 _ n (by omega) t
  have ac : acc = xs (fun j => E d1[j]!) (E d1[0]!) n := by rw [← hacc]; exact tr2_acc E d1 _ n (by omega)
  clear hacc hda
  obtain ⟨db, hdb⟩ : ∃ db, tr3 acc (da.setIfInBounds 0 acc) n = db := ⟨_, rfl⟩
  rw [hdb]
  have sb : db.size = n + 1 := by rw [← hdb, size_tr3]; simpa using sa
  have gb : ∀ t, db[t]! = if t = 0 then acc else if t ≤ n then E d1[t]! ^^^ acc else d1[t]! := by
    intro t
    rw [← hdb, tr3_get _ _ _ (by simp [sa])]
    by_cases h0 : t = 0
    · subst h0; rw [if_neg (by omega), if_pos rfl, get_set_same _ _ _ (by omega)]
    · rw [if_neg h0, get_set_other _ _ _ _ h0, ga]
      by_cases h2 : t ≤ n
      · rw [if_pos (by omega), if_pos (by omega), if_pos h2]
      · rw [if_neg (by omega), if_neg (by omega), if_neg h2]
  clear hdb ga sa da
  obtain ⟨dc, hdc⟩ : ∃ dc, un1 db n = dc := ⟨_, rfl⟩
  rw [hdc]
  have sc : dc.size = n + 1 := by rw [← hdc, size_un1, sb]
  have gc : ∀ t, dc[t]! = if t = 0 then acc else if t ≤ n then E d1[t]! else d1[t]! := by
    intro t
    rw [← hdc, un1_get _ _ (by omega), gb t, gb 0, if_pos rfl]
    by_cases h0 : t = 0
    · subst h0; rw [if_neg (by omega), if_pos rfl, if_pos rfl]
    · simp only [h0, if_false]
      by_cases h2 : t ≤ n
      · rw [if_pos (by omega), if_pos h2, if_pos h2, xx]
      · rw [if_neg (by omega), if_neg h2, if_neg h2]
  clear hdc gb sb db
  obtain ⟨dd, hdd⟩ : ∃ dd, un2 E dc n = dd := ⟨_, rfl⟩
  rw [hdd]
  have sd : dd.size = n + 1 := by rw [← hdd, size_un2, sc]
  have gd : ∀ t, dd[t]! = if t = 0 then E d1[0]! else d1[t]! := by
    intro t
    rw [← hdd, un2_get _ _ _ (by omega)]
    by_cases h0 : t = 0
    · subst h0
      rw [if_pos rfl, if_pos rfl, gc 0, if_pos rfl]
      rw [xs_congr (fun j => dc[j]!) (fun j => E d1[j]!) acc n (fun j h1 h2 => by show dc[j]! = E d1[j]!; rw [gc j, if_neg (by omega), if_pos h2]), ac, xs_xs]
    · simp only [h0, if_false]
      rw [gc t, if_neg h0]
      by_cases h2 : t ≤ n
      · rw [if_pos h2, if_pos h2, hE]
      · rw [if_neg h2, if_neg h2]
  apply ext_get
  · simpa using sd.trans hn.symm
  · intro t _
    by_cases h0 : t = 0
    · subst h0; rw [get_set_same _ _ _ (by omega), gd 0, if_pos rfl, hE]
    · rw [get_set_other _ _ _ _ h0, gd t, if_neg h0]

/-- THE ROUND TRIP. -/
theorem trip (E : UInt8 → UInt8) (hE : ∀ z, E (E z) = z) (a b : UInt8) (d : Array UInt8) (h : 1 ≤ d.size) : untransform E a b (transform E a b d) = d := by
  unfold untransform
  rw [size_transform, rotrN_mod]
  obtain ⟨a1, ha1⟩ : ∃ a1, rotrN (d.size - 1) a = a1 := ⟨_, rfl⟩
  have hm : unMid E a1 (transform E a b d) = tr1 E b a d d.size := by
    unfold unMid
    simp only
    rw [size_transform]
    unfold transform
    simp only
    obtain ⟨d1, hd1⟩ : ∃ d1, mid E (rotrN (d.size - 1) a) (tr1 E b a d d.size) = d1 := ⟨_, rfl⟩
    have hs1 : d1.size = d.size - 1 + 1 := by rw [← hd1, size_mid, size_tr1]; omega
    rw [hd1]
    have := unMid_back E hE d1 (d.size - 1) hs1
    simp only at this
    rw [this, ← hd1, ha1, mid_mid]
    rw [size_tr1]
    exact h
  rw [ha1, hm, ← ha1]
  exact un3_tr1 E hE b a d d.size (Nat.le_refl _)
#print axioms trip
end Go.Proofs.YbulkbjhgDoor.Ec
