/-
  THE WALKS OF zzs3009bsame (6) AND zzs3009bmodel (7).
-/
import Derived.Test.YbulkbjhgAkey
import Derived.CellFam
import Derived.Sort.Row
namespace Go.Proofs.Ybulkbjhg
open Go.RowKit Go.Sort

set_option maxRecDepth 100000 in
theorem same_any (g cap : Nat) (G : Nat → UInt8) (w : World) (hg : g < w.heap.size) (hx : ∀ j, j < 8 → w.cell? ⟨g, 0 + j, none⟩ = some (.int .u8 (G j).toNat)) :
    Calls Yba.prog 6 #[.slice (some ⟨g, 0, none⟩) 8 cap, .agg #[.int .u8 (G 0).toNat, .int .u8 (G 1).toNat, .int .u8 (G 2).toNat, .int .u8 (G 3).toNat, .int .u8 (G 4).toNat, .int .u8 (G 5).toNat, .int .u8 (G 6).toNat, .int .u8 (G 7).toNat]] w fun e w' => e = .returned (.bool true) ∧ Below w.heap.size w w' := by
  go_enter Yba.func6, Yba.ntmps6
  go_wp2
  generalize hW : w.alloc (.cells #[.int .u8 (G 0).toNat, .int .u8 (G 1).toNat, .int .u8 (G 2).toNat, .int .u8 (G 3).toNat, .int .u8 (G 4).toNat, .int .u8 (G 5).toNat, .int .u8 (G 6).toNat, .int .u8 (G 7).toNat] 28) = W
  have hy : ∀ j, j < 8 → W.cell? ⟨w.heap.size, 0 + j, none⟩ = some (.int .u8 (G j).toNat) := by
    intro j hj
    rw [← hW, cell_of_row _ _ _ _ _ _ (heap_alloc_new w _)]
    have hc : j = 0 ∨ j = 1 ∨ j = 2 ∨ j = 3 ∨ j = 4 ∨ j = 5 ∨ j = 6 ∨ j = 7 := by omega
    rcases hc with rfl | rfl | rfl | rfl | rfl | rfl | rfl | rfl <;> rfl
  have bel : Below w.heap.size w W := by rw [← hW]; exact (Below.refl _ _).alloc (Nat.le_refl _) _
  have hx2 : ∀ j, j < 8 → W.cell? ⟨g, 0 + j, none⟩ = some (.int .u8 (G j).toNat) := fun j hj => by rw [bel.cell (p := ⟨g, 0 + j, none⟩) hg]; exact hx j hj
  clear hW hx
  have BB : Hid (Below w.heap.size w W) := bel
  clear bel
  go_loopw [5] (fun vi wr => ∃ k m : Nat, k ≤ 8 ∧ vi = .int .i64 k ∧ wr = W.drewN m) (fun vi _ => 8 - (intOf vi).toNat)
  case atStart => exact ⟨0, 0, by omega, rfl, rfl⟩
  case round =>
    obtain ⟨k, m, hk, rfl, rfl⟩ := hrel
    by_cases hlt : k < 8
    · have bb : (((G k).toNat : Int) != ((G k).toNat : Int)) = false := by simp
      have hlt' : (k : Int) < 8 := by omega
      have e1 := hx2 k hlt
      have e2 := hy k hlt
      rw [Nat.zero_add] at e1 e2
      go_wp2
      go_quiet (fail)
      go_wp2
      go_roundw
      case rel => exact ⟨k + 1, _, by omega, by go_num, rfl⟩
      case measure => simp [intOf]; omega
    · go_wp2
      go_ret
      exact ⟨rfl, BB.out.os, BB.out.tape, BB.out.output, BB.out.size, BB.out.block⟩
#print axioms same_any
end Go.Proofs.Ybulkbjhg
