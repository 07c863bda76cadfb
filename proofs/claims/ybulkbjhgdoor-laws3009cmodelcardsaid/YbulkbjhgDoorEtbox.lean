/-
  THE WALK OF cave.etbox (function 23): it computes 'Ec.et', reads the key's cells and ibox, and writes nothing.
-/
import Derived.Test.YbulkbjhgDoorProg
import Derived.Test.YbulkbjhgDoorPlain
import Derived.WalkKit
import Derived.WalkSpells
import Derived.Deep.Draws
import Derived.Deep.QuietTactic
import Derived.BigQuiet
import Derived.CellFam
import Derived.Sort.Row
namespace Go.Proofs.YbulkbjhgDoor
open Go.RowKit Go.Sort

theorem xor_int (x y : UInt8) : bits .xor .u8 (x.toNat : Int) (y.toNat : Int) = ((x ^^^ y).toNat : Int) := by
  rw [u8_xor_nat _ _ x.toNat_lt y.toNat_lt, UInt8.toNat_xor]
theorem and_int (x y : UInt8) : bits .and .u8 (x.toNat : Int) (y.toNat : Int) = ((x &&& y).toNat : Int) := by
  rw [u8_and_nat _ _ x.toNat_lt y.toNat_lt, UInt8.toNat_and]
theorem or_int (x y : UInt8) : bits .or .u8 (x.toNat : Int) (y.toNat : Int) = ((x ||| y).toNat : Int) := by
  rw [u8_or_nat _ _ x.toNat_lt y.toNat_lt, UInt8.toNat_or]

set_option maxRecDepth 100000 in
theorem etbox_any (kb ko kl kc : Nat) (K I : Nat → UInt8) (z : UInt8) (w : World) (h1 : 1 ≤ kl) (h2 : kl ≤ 1024)
   (hk : ∀ j, j < kl → w.cell? ⟨kb, ko + j, none⟩ = some (.int .u8 (K j).toNat))
   (hi : ∀ j, j < 256 → w.cell? ⟨2, j, none⟩ = some (.int .u8 (I j).toNat)) :
   Calls Ybad.prog 23 #[.slice (some ⟨kb, ko, none⟩) kl kc, .int .u8 z.toNat] w fun e w' => e = .returned (.int .u8 (Ec.et I K kl z).toNat) ∧ ∃ n, w' = w.drewN n := by
  go_enter Ybad.func23, Ybad.ntmps23
  go_wp2
  go_loopw [5, 6] (fun vt vj wr => ∃ m n : Nat, m + 1 ≤ kl ∧ vj = .int .i64 ((m : Int) + 1) ∧ vt = .int .u8 (Ec.upT I K (z + K 0) m).toNat ∧ wr = w.drewN n) (fun _ vj _ => kl - (intOf vj).toNat)
  case atStart => exact ⟨0, 0, by omega, rfl, by rw [Ec.upT, ← Ec.add_int], rfl⟩
  case round =>
    obtain ⟨m, n, hm, rfl, rfl, rfl⟩ := hrel
    generalize ht : Ec.upT I K (z + K 0) m = t
    have HT : Hid (Ec.upT I K (z + K 0) m = t) := ht
    clear ht
    have htl : (t.toNat : Int) < 256 := by have := t.toNat_lt; omega
    have hti := hi t.toNat (by omega)
    by_cases hlt : m + 1 < kl
    · by_cases hev : ((m : Int) + 1) % 2 = 0
      · have hev' : (((m : Int) + 1) % 2 == 0) = true := by simp [hev]
        have HE : Hid ((m + 1) % 2 = 0) := by show (m + 1) % 2 = 0; omega
        clear hev
        go_wp2
        go_quiet (fail)
        go_wp2
        go_roundw
        case rel =>
          refine ⟨m + 1, _, by omega, by go_num, ?_, rfl⟩
          rw [Ec.upT, Ec.stepU, HT.out, if_pos HE.out, ← Ec.add_int]
        case measure => simp [intOf]; omega
      · have hev' : (((m : Int) + 1) % 2 == 0) = false := by simp [hev]
        have HE : Hid (¬ (m + 1) % 2 = 0) := by show ¬ (m + 1) % 2 = 0; omega
        clear hev
        go_wp2
        go_quiet (fail)
        go_wp2
        go_roundw
        case rel =>
          refine ⟨m + 1, _, by omega, by go_num, ?_, rfl⟩
          rw [Ec.upT, Ec.stepU, HT.out, if_neg HE.out, xor_int]
        case measure => simp [intOf]; omega
    · have HM : Hid (kl = m + 1) := by show kl = m + 1; omega
      go_wp2
      go_loopw [5, 7] (fun vt vj wr => ∃ (j : Int) (n : Nat) (u : UInt8), -1 ≤ j ∧ j + 2 ≤ kl ∧ vj = .int .i64 j ∧ vt = .int .u8 u.toNat ∧ wr = w.drewN n ∧ Ec.dnF I K j.toNat u = Ec.dnF I K (kl - 2) t) (fun _ vj _ => (intOf vj).toNat)
      case atStart => exact ⟨(kl : Int) - 2, n, t, by omega, by omega, by go_num, rfl, rfl, by congr 1; omega⟩
      case round =>
        clear htl hti
        obtain ⟨j, n2, u, hj1, hj2, rfl, rfl, rfl, hd⟩ := hrel
        have HD : Hid (Ec.dnF I K j.toNat u = Ec.dnF I K (kl - 2) t) := hd
        clear hd
        have hul : (u.toNat : Int) < 256 := by have := u.toNat_lt; omega
        have hui := hi u.toNat (by omega)
        by_cases hjp : 0 < j
        · obtain ⟨q, rfl⟩ : ∃ q : Nat, j = (q : Int) + 1 := ⟨(j - 1).toNat, by omega⟩
          by_cases hev : ((q : Int) + 1) % 2 = 0
          · have hev' : (((q : Int) + 1) % 2 == 0) = true := by simp [hev]
            have HE : Hid ((q + 1) % 2 = 0) := by show (q + 1) % 2 = 0; omega
            clear hev
            go_wp2
            go_quiet (fail)
            go_wp2
            go_roundw
            case rel =>
              refine ⟨q, _, I u.toNat - K (q + 1), by omega, by omega, by go_num, by rw [← Ec.sub_int], rfl, ?_⟩
              rw [← HD.out, show ((q : Int) + 1).toNat = q + 1 by omega, Int.toNat_natCast, Ec.dnF, Ec.stepD, if_pos HE.out]
            case measure => simp [intOf]
          · have hev' : (((q : Int) + 1) % 2 == 0) = false := by simp [hev]
            have HE : Hid (¬ (q + 1) % 2 = 0) := by show ¬ (q + 1) % 2 = 0; omega
            clear hev
            go_wp2
            go_quiet (fail)
            go_wp2
            go_roundw
            case rel =>
              refine ⟨q, _, I u.toNat ^^^ K (q + 1), by omega, by omega, by go_num, by rw [xor_int], rfl, ?_⟩
              rw [← HD.out, show ((q : Int) + 1).toNat = q + 1 by omega, Int.toNat_natCast, Ec.dnF, Ec.stepD, if_neg HE.out]
            case measure => simp [intOf]
        · have HF : Hid (Ec.et I K kl z = I u.toNat - K 0) := by
            show Ec.et I K kl z = I u.toNat - K 0
            rw [Ec.et, show kl - 1 = m by have := HM.out; omega, HT.out, ← HD.out, show j.toNat = 0 by omega, Ec.dnF]
          have hk0 := hk 0 (by omega)
          go_wp2
          go_quiet (fail)
          go_wp2
          go_ret
          exact ⟨(by rw [HF.out, ← Ec.sub_int]; rfl), _, World.drewN_drewN _ _ _⟩
#print axioms etbox_any
end Go.Proofs.YbulkbjhgDoor
