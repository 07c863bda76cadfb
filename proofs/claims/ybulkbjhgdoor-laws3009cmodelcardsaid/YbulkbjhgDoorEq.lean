import Derived.Test.YbulkbjhgDoorTransform
namespace Go.Proofs.YbulkbjhgDoor
open Go.RowKit Go.Sort
set_option maxRecDepth 100000 in
theorem eq_any (xb xo xc yb yo yc n : Nat) (G : Nat → UInt8) (w : World) (hn : n ≤ 1024)
   (hx : ∀ j, j < n → w.cell? ⟨xb, xo + j, none⟩ = some (.int .u8 (G j).toNat))
   (hy : ∀ j, j < n → w.cell? ⟨yb, yo + j, none⟩ = some (.int .u8 (G j).toNat)) :
   Calls Ybad.prog 13 #[.slice (some ⟨xb, xo, none⟩) n xc, .slice (some ⟨yb, yo, none⟩) n yc] w fun e w' => e = .returned (.bool true) ∧ ∃ m, w' = w.drewN m := by
  go_enter Ybad.func13, Ybad.ntmps13
  go_wp2
  go_loopw [5] (fun vi wr => ∃ k m : Nat, k ≤ n ∧ vi = .int .i64 k ∧ wr = w.drewN m) (fun vi _ => n - (intOf vi).toNat)
  case atStart => exact ⟨0, 0, by omega, rfl, rfl⟩
  case round =>
    obtain ⟨k, m, hk, rfl, rfl⟩ := hrel
    by_cases hlt : k < n
    · have bb : (((G k).toNat : Int) != ((G k).toNat : Int)) = false := by simp
      go_wp2
      go_quiet (fail)
      go_wp2
      go_roundw
      case rel => exact ⟨k + 1, _, by omega, by go_num, rfl⟩
      case measure => simp [intOf]; omega
    · go_wp2
      go_ret
      exact ⟨rfl, m, rfl⟩
#print axioms eq_any
end Go.Proofs.YbulkbjhgDoor
