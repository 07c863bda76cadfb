/-
  THE WALKS OF cave.decimal (8) AND cave.number (11).
-/
import Derived.Test.YbulkbjhgProg
import Derived.Test.YbulkbjhgLaw
import Derived.WalkKit
import Derived.WalkSpells
import Derived.Lib.ConvBytes
import Derived.Deep.Draws
import Derived.CellFam
namespace Go.Proofs.Ybulkbjhg
open Go.RowKit

theorem bytes_below (w : World) (s : ByteArray) : Below w.heap.size w (Lib.bytesWorld w 5 s) :=
  ⟨rfl, rfl, rfl, by rw [Lib.bytesWorld_size]; omega, fun k hk => Lib.bytesWorld_at_old w 5 s k hk⟩

theorem getD_byte (s : ByteArray) (k : Nat) (h : k < s.size) : s.data.toList.getD k 0 = s.data[k]'h := by
  rw [List.getD_eq_getElem?_getD, List.getElem?_eq_getElem (by simpa using h)]
  simp
theorem take_snoc (s : ByteArray) (k : Nat) (h : k < s.size) : s.data.toList.take (k + 1) = s.data.toList.take k ++ [s.data.toList.getD k 0] := by
  rw [List.take_succ_eq_append_getElem (by simpa using h), getD_byte s k h]
  simp

theorem dec_snoc (l : List UInt8) (c : UInt8) : Ak.dec (l ++ [c]) = (Ak.dec l && Ak.isD c) := by simp [Ak.dec]
theorem dec_no (s : ByteArray) (k : Nat) (h : k < s.size) (hc : Ak.isD (s.data.toList.getD k 0) = false) : Ak.dec s.data.toList = false := by
  rw [Ak.dec, List.all_eq_false]
  refine ⟨s.data.toList.getD k 0, ?_, by rw [hc]; simp⟩
  rw [getD_byte s k h]
  simp

set_option maxRecDepth 100000 in
theorem decimal_any (s : ByteArray) (w : World) (hs : s.size ≤ 1024) :
    Calls Yba.prog 8 #[.string s] w fun e w' => e = .returned (.bool (Ak.dec s.data.toList)) ∧ Below w.heap.size w w' := by
  have hcv := Lib.run_convert_string_bytes (P := Yba.prog) w 9 22 5 s Yba.underlying9 Yba.underlying22 Yba.underlying5
  have hcell : ∀ j, j < s.size → (Lib.bytesWorld w 5 s).cell? ⟨w.heap.size, 0 + j, none⟩ = some (.int .u8 (s.data.toList.getD j 0).toNat) := fun j hj => by
    rw [Nat.zero_add]; exact Lib.bytesWorld_cell w 5 s j hj
  have B := bytes_below w s
  generalize Lib.bytesWorld w 5 s = W at *
  generalize grownCap w s.size 0 5 = cap at *
  go_enter Yba.func8, Yba.ntmps8
  go_wp2
  go_loop [8] (fun vi => ∃ k : Nat, k ≤ s.size ∧ vi = .int .i64 k ∧ Ak.dec (s.data.toList.take k) = true) (fun vi => s.size - (intOf vi).toNat)
  case atStart => exact ⟨0, Nat.zero_le _, rfl, rfl⟩
  case round =>
    obtain ⟨k, hk, rfl, hdec⟩ := hrel
    have HD : Hid (Ak.dec (s.data.toList.take k) = true) := hdec
    have BB : Hid (Below w.heap.size w W) := B
    clear hdec
    by_cases hlt : k < s.size
    · obtain ⟨c, hc⟩ : ∃ c, s.data.toList.getD k 0 = c := ⟨_, rfl⟩
      have hck : W.cell? ⟨w.heap.size, k, none⟩ = some (.int .u8 c.toNat) := by have := hcell k hlt; rwa [Nat.zero_add, hc] at this
      have HC : Hid (s.data.toList.getD k 0 = c) := hc
      clear hc hcell
      by_cases h1 : (c.toNat : Int) < 48
      · have HN : Hid (Ak.dec s.data.toList = false) := dec_no s k hlt (by rw [HC.out]; simp [Ak.isD]; omega)
        go_wp2
        go_ret
        exact ⟨by rw [HN.out]; rfl, BB.out⟩
      · by_cases h2 : 57 < (c.toNat : Int)
        · have HN : Hid (Ak.dec s.data.toList = false) := dec_no s k hlt (by rw [HC.out]; simp [Ak.isD]; omega)
          go_wp2
          go_ret
          exact ⟨by rw [HN.out]; rfl, BB.out⟩
        · go_wp2
          go_round
          case rel => exact ⟨k + 1, by omega, by go_num, by rw [take_snoc s k hlt, dec_snoc, HD.out, HC.out]; simp [Ak.isD]; omega⟩
          case measure => simp [intOf]; omega
    · have HN : Hid (Ak.dec s.data.toList = true) := by
        have := HD.out
        rwa [List.take_of_length_le (by simp; omega)] at this
      go_wp2
      go_ret
      exact ⟨by rw [HN.out]; rfl, BB.out⟩
#print axioms decimal_any

theorem numStep_int (n : Nat) (c : UInt8) : IntKind.u64.wrap (IntKind.u64.wrap ((n : Int) * 10) + ((c.toNat : Int) - 48) % 256) = ((Ak.numStep n c : Nat) : Int) := by
  have hc := c.toNat_lt
  rw [IntKind.wrap_u64, IntKind.wrap_u64, Ak.numStep]
  have e : ((c - 48).toNat : Int) = ((c.toNat : Int) - 48) % 256 := by
    rw [UInt8.toNat_sub]
    show (((2 ^ 8 - 48 + c.toNat) % 2 ^ 8 : Nat) : Int) = _
    omega
  omega

set_option maxRecDepth 100000 in
theorem number_any (s : ByteArray) (w : World) (hs : s.size ≤ 1024) :
    Calls Yba.prog 11 #[.string s] w fun e w' => e = .returned (.int .u64 (Ak.num s.data.toList)) ∧ Below w.heap.size w w' := by
  have hcv := Lib.run_convert_string_bytes (P := Yba.prog) w 9 22 5 s Yba.underlying9 Yba.underlying22 Yba.underlying5
  have hcell : ∀ j, j < s.size → (Lib.bytesWorld w 5 s).cell? ⟨w.heap.size, 0 + j, none⟩ = some (.int .u8 (s.data.toList.getD j 0).toNat) := fun j hj => by
    rw [Nat.zero_add]; exact Lib.bytesWorld_cell w 5 s j hj
  have B := bytes_below w s
  generalize Lib.bytesWorld w 5 s = W at *
  generalize grownCap w s.size 0 5 = cap at *
  go_enter Yba.func11, Yba.ntmps11
  go_wp2
  go_loop [3, 9] (fun vn vi => ∃ k : Nat, k ≤ s.size ∧ vi = .int .i64 k ∧ vn = .int .u64 (Ak.num (s.data.toList.take k))) (fun _ vi => s.size - (intOf vi).toNat)
  case atStart => exact ⟨0, Nat.zero_le _, rfl, rfl⟩
  case round =>
    obtain ⟨k, hk, rfl, rfl⟩ := hrel
    have BB : Hid (Below w.heap.size w W) := B
    have hnl := Ak.num_lt (s.data.toList.take k)
    obtain ⟨n, hn⟩ : ∃ n, Ak.num (s.data.toList.take k) = n := ⟨_, rfl⟩
    rw [hn] at hnl
    rw [hn]
    have HNN : Hid (Ak.num (s.data.toList.take k) = n) := hn
    clear hn
    by_cases hlt : k < s.size
    · obtain ⟨c, hc⟩ : ∃ c, s.data.toList.getD k 0 = c := ⟨_, rfl⟩
      have hck : W.cell? ⟨w.heap.size, k, none⟩ = some (.int .u8 c.toNat) := by have := hcell k hlt; rwa [Nat.zero_add, hc] at this
      have HNX : Hid (Ak.num (s.data.toList.take (k + 1)) = Ak.numStep n c) := by show _ = _; rw [take_snoc s k hlt, Ak.num_snoc, HNN.out, hc]
      clear hc hcell
      go_wp2
      go_round
      case rel =>
        refine ⟨k + 1, by omega, by go_num, ?_⟩
        rw [HNX.out, numStep_int]
      case measure => simp [intOf]; omega
    · have HN : Hid (Ak.num s.data.toList = n) := by
        have := HNN.out
        rwa [List.take_of_length_le (by simp; omega)] at this
      go_wp2
      go_ret
      exact ⟨by rw [HN.out]; rfl, BB.out⟩
#print axioms number_any
end Go.Proofs.Ybulkbjhg
