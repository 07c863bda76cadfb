/-
  THE WALKS OF math/bits.RotateLeft8 (22), cave.keyedIndex (25).
-/
import Derived.Test.YbulkbjhgDoorEtbox
namespace Go.Proofs.YbulkbjhgDoor
open Go.RowKit Go.Sort

theorem etbox_at (kb ko kl kc : Nat) (K I : Nat → UInt8) (zi : Int) (z : UInt8) (hz : (z.toNat : Int) = zi) (w : World) (h1 : 1 ≤ kl) (h2 : kl ≤ 1024)
   (hk : ∀ j, j < kl → w.cell? ⟨kb, ko + j, none⟩ = some (.int .u8 (K j).toNat))
   (hi : ∀ j, j < 256 → w.cell? ⟨2, j, none⟩ = some (.int .u8 (I j).toNat)) :
   Calls Ybad.prog 23 #[.slice (some ⟨kb, ko, none⟩) kl kc, .int .u8 zi] w fun e w' => e = .returned (.int .u8 (Ec.et I K kl z).toNat) ∧ ∃ n, w' = w.drewN n := by
  subst hz
  exact etbox_any kb ko kl kc K I z w h1 h2 hk hi

set_option maxRecDepth 100000 in
theorem keyedIndex_any (kb ko kl kc n : Nat) (K I : Nat → UInt8) (vi ai : Int) (v a : UInt8) (hv : (v.toNat : Int) = vi) (ha : (a.toNat : Int) = ai) (w : World) (h1 : 1 ≤ kl) (h2 : kl ≤ 1024) (hn : n ≤ 1024)
   (hk : ∀ j, j < kl → w.cell? ⟨kb, ko + j, none⟩ = some (.int .u8 (K j).toNat))
   (hi : ∀ j, j < 256 → w.cell? ⟨2, j, none⟩ = some (.int .u8 (I j).toNat)) :
   Calls Ybad.prog 25 #[.slice (some ⟨kb, ko, none⟩) kl kc, .int .i64 n, .int .u8 vi, .int .u8 ai] w fun e w' => e = .returned (.int .i64 (Ec.kidx (Ec.et I K kl) n v a : Nat)) ∧ ∃ n, w' = w.drewN n := by
  subst hv ha
  have hx := xor_int v a
  go_enter Ybad.func25, Ybad.ntmps25
  go_wp2_with (fail)
  clear hx
  refine (etbox_at kb ko kl kc K I _ (v ^^^ a) (by rw [UInt8.toNat_xor]) _ h1 h2 hk hi).mono ?_
  rintro e w' ⟨rfl, m, rfl⟩
  have hle := (Ec.et I K kl (v ^^^ a)).toNat_lt
  obtain ⟨x, hx⟩ : ∃ x, (Ec.et I K kl (v ^^^ a)).toNat = x := ⟨_, rfl⟩
  rw [hx] at hle ⊢
  have HX : Hid ((Ec.et I K kl (v ^^^ a)).toNat = x) := hx
  clear hx
  have hb : (n : Int) * (x : Int) ≤ 1024 * 256 := by
    have : n * x ≤ 1024 * 256 := Nat.mul_le_mul (by omega) (by omega)
    exact_mod_cast this
  have hb0 : 0 ≤ (n : Int) * (x : Int) := Int.mul_nonneg (by omega) (by omega)
  go_wp2
  go_ret
  refine ⟨?_, _, rfl⟩
  rw [Ec.kidx, HX.out]
  show Ending.returned (Value.int IntKind.i64 (↑n * ↑x / 256)) = _
  congr 2

theorem and7 : bits .and .u64 (IntKind.u64.wrap (-1)) 7 = 7 ∧ bits .and .u64 (IntKind.u64.wrap (-2)) 7 = 6 ∧ bits .and .u64 (IntKind.u64.wrap (-3)) 7 = 5 ∧ bits .and .u64 (IntKind.u64.wrap (-4)) 7 = 4 ∧ bits .and .u64 (IntKind.u64.wrap (-5)) 7 = 3 ∧ bits .and .u64 (IntKind.u64.wrap (-6)) 7 = 2 ∧ bits .and .u64 (IntKind.u64.wrap (-7)) 7 = 1 ∧ bits .and .u64 0 7 = 0 ∧ bits .and .u64 1 7 = 1 := by decide

theorem rots : ∀ n : Nat, n < 256 → bits .or .u8 ((n : Int) * 128 % 256) ((n : Int) / 2) = ((Ec.rotrN 1 (UInt8.ofNat n)).toNat : Int) ∧ bits .or .u8 ((n : Int) * 64 % 256) ((n : Int) / 4) = ((Ec.rotrN 2 (UInt8.ofNat n)).toNat : Int)
    ∧ bits .or .u8 ((n : Int) * 32 % 256) ((n : Int) / 8) = ((Ec.rotrN 3 (UInt8.ofNat n)).toNat : Int) ∧ bits .or .u8 ((n : Int) * 16 % 256) ((n : Int) / 16) = ((Ec.rotrN 4 (UInt8.ofNat n)).toNat : Int)
    ∧ bits .or .u8 ((n : Int) * 8 % 256) ((n : Int) / 32) = ((Ec.rotrN 5 (UInt8.ofNat n)).toNat : Int) ∧ bits .or .u8 ((n : Int) * 4 % 256) ((n : Int) / 64) = ((Ec.rotrN 6 (UInt8.ofNat n)).toNat : Int)
    ∧ bits .or .u8 ((n : Int) * 2 % 256) ((n : Int) / 128) = ((Ec.rotrN 7 (UInt8.ofNat n)).toNat : Int) ∧ bits .or .u8 ((n : Int) % 256) ((n : Int) / 256) = ((Ec.rotrN 0 (UInt8.ofNat n)).toNat : Int) ∧ Ec.rotrN 7 (UInt8.ofNat n) = Ec.rotl (UInt8.ofNat n) := by decide +kernel

set_option maxRecDepth 100000 in
theorem rot_any (x : UInt8) (m : Nat) (k : Int) (w : World) (hm : m < 8) (hk : k = -(m : Int)) :
   Calls Ybad.prog 22 #[.int .u8 x.toNat, .int .i64 k] w fun e w' => e = .returned (.int .u8 (Ec.rotrN m x).toNat) ∧ w' = w := by
  obtain ⟨b1, b2, b3, b4, b5, b6, b7, b0, _⟩ := rots x.toNat x.toNat_lt
  rw [UInt8.ofNat_toNat] at b1 b2 b3 b4 b5 b6 b7 b0
  have hc : m = 0 ∨ m = 1 ∨ m = 2 ∨ m = 3 ∨ m = 4 ∨ m = 5 ∨ m = 6 ∨ m = 7 := by omega
  rcases hc with rfl | rfl | rfl | rfl | rfl | rfl | rfl | rfl
  · obtain rfl : k = 0 := by omega
    have B : Hid _ := b0
    have a := and7.2.2.2.2.2.2.2.1
    clear b1 b2 b3 b4 b5 b6 b7 b0 hk hm
    go_enter Ybad.func22, Ybad.ntmps22
    go_wp2
    go_ret
    exact ⟨by rw [← B.out]; rfl, rfl⟩
  · obtain rfl : k = -1 := by omega
    have B : Hid _ := b1
    have a := and7.1
    clear b1 b2 b3 b4 b5 b6 b7 b0 hk hm
    go_enter Ybad.func22, Ybad.ntmps22
    go_wp2
    go_ret
    exact ⟨by rw [← B.out]; rfl, rfl⟩
  · obtain rfl : k = -2 := by omega
    have B : Hid _ := b2
    have a := and7.2.1
    clear b1 b2 b3 b4 b5 b6 b7 b0 hk hm
    go_enter Ybad.func22, Ybad.ntmps22
    go_wp2
    go_ret
    exact ⟨by rw [← B.out]; rfl, rfl⟩
  · obtain rfl : k = -3 := by omega
    have B : Hid _ := b3
    have a := and7.2.2.1
    clear b1 b2 b3 b4 b5 b6 b7 b0 hk hm
    go_enter Ybad.func22, Ybad.ntmps22
    go_wp2
    go_ret
    exact ⟨by rw [← B.out]; rfl, rfl⟩
  · obtain rfl : k = -4 := by omega
    have B : Hid _ := b4
    have a := and7.2.2.2.1
    clear b1 b2 b3 b4 b5 b6 b7 b0 hk hm
    go_enter Ybad.func22, Ybad.ntmps22
    go_wp2
    go_ret
    exact ⟨by rw [← B.out]; rfl, rfl⟩
  · obtain rfl : k = -5 := by omega
    have B : Hid _ := b5
    have a := and7.2.2.2.2.1
    clear b1 b2 b3 b4 b5 b6 b7 b0 hk hm
    go_enter Ybad.func22, Ybad.ntmps22
    go_wp2
    go_ret
    exact ⟨by rw [← B.out]; rfl, rfl⟩
  · obtain rfl : k = -6 := by omega
    have B : Hid _ := b6
    have a := and7.2.2.2.2.2.1
    clear b1 b2 b3 b4 b5 b6 b7 b0 hk hm
    go_enter Ybad.func22, Ybad.ntmps22
    go_wp2
    go_ret
    exact ⟨by rw [← B.out]; rfl, rfl⟩
  · obtain rfl : k = -7 := by omega
    have B : Hid _ := b7
    have a := and7.2.2.2.2.2.2.1
    clear b1 b2 b3 b4 b5 b6 b7 b0 hk hm
    go_enter Ybad.func22, Ybad.ntmps22
    go_wp2
    go_ret
    exact ⟨by rw [← B.out]; rfl, rfl⟩

set_option maxRecDepth 100000 in
theorem rotl_any (x : UInt8) (w : World) :
   Calls Ybad.prog 22 #[.int .u8 x.toNat, .int .i64 1] w fun e w' => e = .returned (.int .u8 (Ec.rotl x).toNat) ∧ w' = w := by
  have B : Hid (bits .or .u8 ((x.toNat : Int) * 2 % 256) ((x.toNat : Int) / 128) = ((Ec.rotl x).toNat : Int)) := by
    obtain ⟨_, _, _, _, _, _, b7, _, b8⟩ := rots x.toNat x.toNat_lt
    rw [UInt8.ofNat_toNat] at b7 b8
    show _ = _
    rw [b7, b8]
  have a := and7.2.2.2.2.2.2.2.2
  go_enter Ybad.func22, Ybad.ntmps22
  go_wp2
  go_ret
  exact ⟨by rw [← B.out]; rfl, rfl⟩
#print axioms rotl_any
#print axioms rot_any
#print axioms keyedIndex_any
end Go.Proofs.YbulkbjhgDoor
