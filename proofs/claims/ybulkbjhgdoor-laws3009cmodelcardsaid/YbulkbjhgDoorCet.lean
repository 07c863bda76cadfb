/-
  THE WALKS OF zzs3009cet (20) AND zzs3009cidx (21): the restatement's octet function computes 'Ec.et' too.
-/
import Derived.Test.YbulkbjhgDoorSmall
namespace Go.Proofs.YbulkbjhgDoor
open Go.RowKit Go.Sort

theorem and1 (n : Int) : bits .and .i64 n 1 = n % 2 := by
  have h1 : (BitVec.ofInt 64 1).toNat = 2 ^ 1 - 1 := by decide
  have key : (BitVec.ofInt 64 n &&& BitVec.ofInt 64 1).toNat = (n % ((2 ^ 64 : Nat) : Int)).toNat % 2 ^ 1 := by
    rw [BitVec.toNat_and, BitVec.toNat_ofInt, h1, Nat.and_two_pow_sub_one_eq_mod]
  show IntKind.i64.wrap ((BitVec.ofInt 64 n &&& BitVec.ofInt 64 1).toNat : Nat) = n % 2
  rw [key, IntKind.wrap_i64]
  omega

set_option maxRecDepth 100000 in
theorem cet_any (kb ko kl kc : Nat) (K I : Nat → UInt8) (z : UInt8) (w : World) (h1 : 1 ≤ kl) (h2 : kl ≤ 1024)
   (hk : ∀ j, j < kl → w.cell? ⟨kb, ko + j, none⟩ = some (.int .u8 (K j).toNat))
   (hi : ∀ j, j < 256 → w.cell? ⟨2, j, none⟩ = some (.int .u8 (I j).toNat)) :
   Calls Ybad.prog 20 #[.slice (some ⟨kb, ko, none⟩) kl kc, .int .u8 z.toNat] w fun e w' => e = .returned (.int .u8 (Ec.et I K kl z).toNat) ∧ ∃ n, w' = w.drewN n := by
  go_enter Ybad.func20, Ybad.ntmps20
  go_wp2
  go_loopw [5, 6] (fun vt vj wr => ∃ m n : Nat, m + 1 ≤ kl ∧ vj = .int .i64 ((m : Int) + 1) ∧ vt = .int .u8 (Ec.upT I K (z + K 0) m).toNat ∧ wr = w.drewN n) (fun _ vj _ => kl - (intOf vj).toNat)
  case atStart => exact ⟨0, 0, by omega, rfl, by rw [Ec.upT, ← Ec.add_int], rfl⟩
  case round =>
    obtain ⟨m, n, hm, rfl, rfl, rfl⟩ := hrel
    generalize ht : Ec.upT I K (z + K 0) m = t
    have HT : Hid (Ec.upT I K (z + K 0) m = t) := ht
    clear ht
    have htl : (t.toNat : Int) < 256 := by have := t.toNat_lt; omega
    have hti := hi t.toNat (by omega)
    by_cases hlt : m + 1 < kl
    · by_cases hev : ((m : Int) + 1) % 2 = 0
      · have hev' : (bits .and .i64 ((m : Int) + 1) 1 == 1) = false := by rw [and1]; simp; omega
        have HE : Hid ((m + 1) % 2 = 0) := by show (m + 1) % 2 = 0; omega
        clear hev
        go_wp2
        go_quiet (fail)
        go_wp2
        go_roundw
        case rel =>
          refine ⟨m + 1, _, by omega, by go_num, ?_, rfl⟩
          rw [Ec.upT, Ec.stepU, HT.out, if_pos HE.out, ← Ec.add_int]
        case measure => simp [intOf]; omega
      · have hev' : (bits .and .i64 ((m : Int) + 1) 1 == 1) = true := by rw [and1]; simp; omega
        have HE : Hid (¬ (m + 1) % 2 = 0) := by show ¬ (m + 1) % 2 = 0; omega
        clear hev
        go_wp2
        go_quiet (fail)
        go_wp2
        go_roundw
        case rel =>
          refine ⟨m + 1, _, by omega, by go_num, ?_, rfl⟩
          rw [Ec.upT, Ec.stepU, HT.out, if_neg HE.out, xor_int]
        case measure => simp [intOf]; omega
    · have HM : Hid (kl = m + 1) := by show kl = m + 1; omega
      go_wp2
      go_loopw [5, 7] (fun vt vj wr => ∃ (j : Int) (n : Nat) (u : UInt8), -1 ≤ j ∧ j + 2 ≤ kl ∧ vj = .int .i64 j ∧ vt = .int .u8 u.toNat ∧ wr = w.drewN n ∧ Ec.dnF I K j.toNat u = Ec.dnF I K (kl - 2) t) (fun _ vj _ => (intOf vj).toNat)
      case atStart => exact ⟨(kl : Int) - 2, n, t, by omega, by omega, by go_num, rfl, rfl, by congr 1; omega⟩
      case round =>
        clear htl hti
        obtain ⟨j, n2, u, hj1, hj2, rfl, rfl, rfl, hd⟩ := hrel
        have HD : Hid (Ec.dnF I K j.toNat u = Ec.dnF I K (kl - 2) t) := hd
        clear hd
        have hul : (u.toNat : Int) < 256 := by have := u.toNat_lt; omega
        have hui := hi u.toNat (by omega)
        by_cases hjp : 0 < j
        · obtain ⟨q, rfl⟩ : ∃ q : Nat, j = (q : Int) + 1 := ⟨(j - 1).toNat, by omega⟩
          by_cases hev : ((q : Int) + 1) % 2 = 0
          · have hev' : (bits .and .i64 ((q : Int) + 1) 1 == 1) = false := by rw [and1]; simp; omega
            have HE : Hid ((q + 1) % 2 = 0) := by show (q + 1) % 2 = 0; omega
            clear hev
            go_wp2
            go_quiet (fail)
            go_wp2
            go_roundw
            case rel =>
              refine ⟨q, _, I u.toNat - K (q + 1), by omega, by omega, by go_num, by rw [← Ec.sub_int], rfl, ?_⟩
              rw [← HD.out, show ((q : Int) + 1).toNat = q + 1 by omega, Int.toNat_natCast, Ec.dnF, Ec.stepD, if_pos HE.out]
            case measure => simp [intOf]
          · have hev' : (bits .and .i64 ((q : Int) + 1) 1 == 1) = true := by rw [and1]; simp; omega
            have HE : Hid (¬ (q + 1) % 2 = 0) := by show ¬ (q + 1) % 2 = 0; omega
            clear hev
            go_wp2
            go_quiet (fail)
            go_wp2
            go_roundw
            case rel =>
              refine ⟨q, _, I u.toNat ^^^ K (q + 1), by omega, by omega, by go_num, by rw [xor_int], rfl, ?_⟩
              rw [← HD.out, show ((q : Int) + 1).toNat = q + 1 by omega, Int.toNat_natCast, Ec.dnF, Ec.stepD, if_neg HE.out]
            case measure => simp [intOf]
        · have HF : Hid (Ec.et I K kl z = I u.toNat - K 0) := by
            show Ec.et I K kl z = I u.toNat - K 0
            rw [Ec.et, show kl - 1 = m by have := HM.out; omega, HT.out, ← HD.out, show j.toNat = 0 by omega, Ec.dnF]
          have hk0 := hk 0 (by omega)
          go_wp2
          go_quiet (fail)
          go_wp2
          go_ret
          exact ⟨(by rw [HF.out, ← Ec.sub_int]; rfl), _, World.drewN_drewN _ _ _⟩

theorem cet_at (kb ko kl kc : Nat) (K I : Nat → UInt8) (zi : Int) (z : UInt8) (hz : (z.toNat : Int) = zi) (w : World) (h1 : 1 ≤ kl) (h2 : kl ≤ 1024)
   (hk : ∀ j, j < kl → w.cell? ⟨kb, ko + j, none⟩ = some (.int .u8 (K j).toNat))
   (hi : ∀ j, j < 256 → w.cell? ⟨2, j, none⟩ = some (.int .u8 (I j).toNat)) :
   Calls Ybad.prog 20 #[.slice (some ⟨kb, ko, none⟩) kl kc, .int .u8 zi] w fun e w' => e = .returned (.int .u8 (Ec.et I K kl z).toNat) ∧ ∃ n, w' = w.drewN n := by
  subst hz
  exact cet_any kb ko kl kc K I z w h1 h2 hk hi

set_option maxRecDepth 100000 in
theorem cidx_any (kb ko kl kc n : Nat) (K I : Nat → UInt8) (vi ai : Int) (v a : UInt8) (hv : (v.toNat : Int) = vi) (ha : (a.toNat : Int) = ai) (w : World) (h1 : 1 ≤ kl) (h2 : kl ≤ 1024) (hn : n ≤ 1024)
   (hk : ∀ j, j < kl → w.cell? ⟨kb, ko + j, none⟩ = some (.int .u8 (K j).toNat))
   (hi : ∀ j, j < 256 → w.cell? ⟨2, j, none⟩ = some (.int .u8 (I j).toNat)) :
   Calls Ybad.prog 21 #[.slice (some ⟨kb, ko, none⟩) kl kc, .int .i64 n, .int .u8 vi, .int .u8 ai] w fun e w' => e = .returned (.int .i64 (Ec.kidx (Ec.et I K kl) n v a : Nat)) ∧ ∃ n, w' = w.drewN n := by
  subst hv ha
  have hx := xor_int v a
  go_enter Ybad.func21, Ybad.ntmps21
  go_wp2_with (fail)
  clear hx
  refine (cet_at kb ko kl kc K I _ (v ^^^ a) (by rw [UInt8.toNat_xor]) _ h1 h2 hk hi).mono ?_
  rintro e w' ⟨rfl, m, rfl⟩
  have hle := (Ec.et I K kl (v ^^^ a)).toNat_lt
  obtain ⟨x, hx⟩ : ∃ x, (Ec.et I K kl (v ^^^ a)).toNat = x := ⟨_, rfl⟩
  rw [hx] at hle ⊢
  have HX : Hid ((Ec.et I K kl (v ^^^ a)).toNat = x) := hx
  clear hx
  have hb : (n : Int) * (x : Int) ≤ 1024 * 256 := by
    have : n * x ≤ 1024 * 256 := Nat.mul_le_mul (by omega) (by omega)
    exact_mod_cast this
  have hb0 : 0 ≤ (n : Int) * (x : Int) := Int.mul_nonneg (by omega) (by omega)
  go_wp2
  go_ret
  refine ⟨?_, _, rfl⟩
  rw [Ec.kidx, HX.out]
  show Ending.returned (Value.int IntKind.i64 (↑n * ↑x / 256)) = _
  congr 2
#print axioms cet_any
#print axioms cidx_any
end Go.Proofs.YbulkbjhgDoor
