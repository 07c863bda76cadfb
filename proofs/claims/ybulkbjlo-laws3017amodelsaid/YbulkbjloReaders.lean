/-
  THE WALKS OF binary.LittleEndian.Uint32 (10), Uint64 (11), entry.ImportedOf (7), PIDOf (8), TimeOf (9).
-/
import Derived.Test.YbulkbjloProg
import Derived.WalkKit
import Derived.WalkSpells
import Derived.Lib.EndianBits
import Derived.Deep.QuietTactic
import Derived.BigQuiet
import Derived.CellFam
import Derived.Deep.Draws
import Derived.Lib.QuietBelow
namespace Go.Proofs.Ybulkbjlo
open Go.RowKit Go.Sort

/-- The number that four bytes spell, the least first. -/
def le4 (G : Nat → UInt8) : Nat := (G 0).toNat + (G 1).toNat * 256 + (G 2).toNat * 65536 + (G 3).toNat * 16777216
/-- .. that eight bytes spell. -/
def le8 (G : Nat → UInt8) : Nat := (G 0).toNat + (G 1).toNat * 256 + (G 2).toNat * 65536 + (G 3).toNat * 16777216 + (G 4).toNat * 4294967296 + (G 5).toNat * 1099511627776 + (G 6).toNat * 281474976710656 + (G 7).toNat * 72057594037927936

set_option maxHeartbeats 2000000 in
set_option maxRecDepth 100000 in
theorem uint32_any (g o n c : Nat) (G : Nat → UInt8) (w : World) (hn : 4 ≤ n) (hg : g < w.heap.size) (hc : ∀ j, j < 4 → w.cell? ⟨g, o + j, none⟩ = some (.int .u8 (G j).toNat)) :
    Calls Yba.prog 10 #[.agg #[], .slice (some ⟨g, o, none⟩) n c] w fun e w' => e = .returned (.int .u32 (le4 G : Nat)) ∧ Below w.heap.size w w' := by
  have q0 : 0 < n := by omega
  have q1 : (1 : Int) < (n : Int) := by omega
  have q2 : (2 : Int) < (n : Int) := by omega
  have q3 : (3 : Int) < (n : Int) := by omega
  have h0 := (G 0).toNat_lt
  have h1 := (G 1).toNat_lt
  have h2 := (G 2).toNat_lt
  have h3 := (G 3).toNat_lt
  go_enter Yba.func10, Yba.ntmps10
  go_wp2_with (fail)
  go_quiet (fail)
  go_wp2_with (fail)
  go_ret
  refine ⟨?_, ((Below.refl _ w).alloc (Nat.le_refl _) _).trans ⟨rfl, rfl, rfl, Nat.le_refl _, fun _ _ => rfl⟩⟩
  simp (disch := omega) only [u32_or8, u32_or16, u32_or24]
  show Ending.returned (.int .u32 _) = _
  congr 2
#print axioms uint32_any

set_option maxHeartbeats 2000000 in
set_option maxRecDepth 100000 in
theorem uint64_any (g o n c : Nat) (G : Nat → UInt8) (w : World) (hn : 8 ≤ n) (hg : g < w.heap.size) (hc : ∀ j, j < 8 → w.cell? ⟨g, o + j, none⟩ = some (.int .u8 (G j).toNat)) :
    Calls Yba.prog 11 #[.agg #[], .slice (some ⟨g, o, none⟩) n c] w fun e w' => e = .returned (.int .u64 (le8 G : Nat)) ∧ Below w.heap.size w w' := by
  have q0 : 0 < n := by omega
  have q1 : (1 : Int) < (n : Int) := by omega
  have q2 : (2 : Int) < (n : Int) := by omega
  have q3 : (3 : Int) < (n : Int) := by omega
  have q4 : (4 : Int) < (n : Int) := by omega
  have q5 : (5 : Int) < (n : Int) := by omega
  have q6 : (6 : Int) < (n : Int) := by omega
  have q7 : (7 : Int) < (n : Int) := by omega
  have h0 := (G 0).toNat_lt
  have h1 := (G 1).toNat_lt
  have h2 := (G 2).toNat_lt
  have h3 := (G 3).toNat_lt
  have h4 := (G 4).toNat_lt
  have h5 := (G 5).toNat_lt
  have h6 := (G 6).toNat_lt
  have h7 := (G 7).toNat_lt
  go_enter Yba.func11, Yba.ntmps11
  go_wp2_with (fail)
  go_quiet (fail)
  go_wp2_with (fail)
  go_ret
  refine ⟨?_, ((Below.refl _ w).alloc (Nat.le_refl _) _).trans ⟨rfl, rfl, rfl, Nat.le_refl _, fun _ _ => rfl⟩⟩
  simp (disch := omega) only [u64_or8, u64_or16, u64_or24, u64_or32, u64_or40, u64_or48, u64_or56]
  show Ending.returned (.int .u64 _) = _
  congr 2
#print axioms uint64_any

set_option maxRecDepth 100000 in
theorem imported_any (g n c : Nat) (x : UInt8) (imp : Bool) (w : World) (hn : 21 ≤ n) (hc : w.cell? ⟨g, 20, none⟩ = some (.int .u8 x.toNat)) (himp : (bits .and .u8 (x.toNat : Int) 1 != 0) = imp) :
    Calls Yba.prog 7 #[.slice (some ⟨g, 0, none⟩) n c] w fun e w' => e = .returned (.bool imp) ∧ w' = w := by
  have q : (20 : Int) < (n : Int) := by omega
  go_enter Yba.func7, Yba.ntmps7
  go_wp2_with (fail)
  go_ret
  exact ⟨rfl, rfl⟩
#print axioms imported_any

set_option maxRecDepth 100000 in
theorem time_any (g n c : Nat) (R : Nat → UInt8) (t : Int) (w : World) (hn : 21 ≤ n) (hg : g < w.heap.size) (hc : ∀ j, j < 21 → w.cell? ⟨g, 0 + j, none⟩ = some (.int .u8 (R j).toNat)) (ht : IntKind.i64.wrap (le8 R : Nat) = t) :
    Calls Yba.prog 9 #[.slice (some ⟨g, 0, none⟩) n c] w fun e w' => e = .returned (.int .i64 t) ∧ Below w.heap.size w w' := by
  have C := uint64_any g 0 n c R w (by omega) hg (fun j hj => hc j (by omega))
  go_enter Yba.func9, Yba.ntmps9
  go_wp2_with (fail)
  refine C.mono ?_
  rintro e w1 ⟨rfl, B⟩
  have BB : Hid (Below w.heap.size w w1) := B
  clear C B hc
  go_wp2_with (fail)
  go_ret
  exact ⟨rfl, BB.out⟩
#print axioms time_any

set_option maxRecDepth 100000 in
theorem pid_any (g n c : Nat) (R : Nat → UInt8) (p : Int) (w : World) (hn : 21 ≤ n) (hnc : n ≤ c) (hg : g < w.heap.size) (hc : ∀ j, j < 21 → w.cell? ⟨g, 0 + j, none⟩ = some (.int .u8 (R j).toNat)) (hp : IntKind.i32.wrap (le4 (fun j => R (8 + j)) : Nat) = p) :
    Calls Yba.prog 8 #[.slice (some ⟨g, 0, none⟩) n c] w fun e w' => e = .returned (.int .i32 p) ∧ Below w.heap.size w w' := by
  have q1 : (8 : Int) ≤ (n : Int) := by omega
  have cQ : ∀ d os, Calls Yba.prog 10 #[.agg #[], .slice (some ⟨g, 8, none⟩) (n - 8) (c - 8)] (grow (redrawn w d) os) fun e w'' => e = .returned (.int .u32 (le4 (fun j => R (8 + j)) : Nat)) ∧ ∃ p : Regrown, w'' = grow (redrawn w p.d) p.os := fun d os =>
    Calls.regrown_of (uint32_any g 8 (n - 8) (c - 8) (fun j => R (8 + j)) _ (by omega) (Nat.lt_of_lt_of_le hg (below_regrown w d os).size) (fun j hj => by
      have := cell_regrown (hc (8 + j) (by omega)) d os
      rwa [Nat.zero_add] at this))
  clear hc
  go_enter Yba.func8, Yba.ntmps8
  go_wp2_with (fail)
  refine wp_region_quiet_below (by kernel_rfl) (by kernel_rfl) ?_
  repeat (first | go_big_quiet_step (exact cQ _ _) | quiet_step (exact cQ _ _))
  refine wpQuiet_nil ?_
  intro _ hw'
  obtain ⟨⟨dq, osq⟩, hw''⟩ := hw'
  subst hw''
  go_wp2_with (fail)
  go_ret
  exact ⟨rfl, below_regrown w dq osq⟩
#print axioms pid_any
end Go.Proofs.Ybulkbjlo
