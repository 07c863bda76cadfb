/-
  THE WALK OF cave.AKeyFromDigits (5).
-/
import Derived.Test.YbulkbjhgAppend
import Derived.Deep.QuietTactic
import Derived.Deep.RegionWith
import Derived.BigQuiet
namespace Go.Proofs.Ybulkbjhg
open Go.RowKit

set_option maxRecDepth 100000 in
theorem akey_len (s : ByteArray) (w : World) (h : s.size < 1 ∨ 20 < s.size) (hs : s.size ≤ 2048) :
    Calls Yba.prog 5 #[.string s] w fun e w' => ∃ a, e = .returned (.tuple #[.slice none 0 0, .iface 39 (.pointer (some a))]) ∧ Below w.heap.size w w' := by
  rcases h with h | h
  · have h1 : (s.size : Int) < 1 := by omega
    go_enter Yba.func5, Yba.ntmps5
    go_wp2
    go_ret2
    first | exact ⟨_, rfl, (Below.refl _ _).alloc (Nat.le_refl _) _⟩ | exact ⟨⟨_, rfl⟩, (Below.refl _ _).alloc (Nat.le_refl _) _⟩
  · have h1 : (20 : Int) < (s.size : Int) := by omega
    have h2 : ¬ (s.size : Int) < 1 := by omega
    go_enter Yba.func5, Yba.ntmps5
    go_wp2
    go_ret2
    first | exact ⟨_, rfl, (Below.refl _ _).alloc (Nat.le_refl _) _⟩ | exact ⟨⟨_, rfl⟩, (Below.refl _ _).alloc (Nat.le_refl _) _⟩

set_option maxRecDepth 100000 in
theorem akey_bad (s : ByteArray) (w : World) (h1 : 1 ≤ s.size) (h2 : s.size ≤ 20) (hd : Ak.dec s.data.toList = false) :
    Calls Yba.prog 5 #[.string s] w fun e w' => ∃ a, e = .returned (.tuple #[.slice none 0 0, .iface 39 (.pointer (some a))]) ∧ Below w.heap.size w w' := by
  have g1 : ¬ (s.size : Int) < 1 := by omega
  have g2 : ¬ (20 : Int) < (s.size : Int) := by omega
  have C := decimal_any s w (by omega)
  rw [hd] at C
  have HC := C
  go_enter Yba.func5, Yba.ntmps5
  go_wp2_with (fail)
  refine C.mono ?_
  rintro e w1 ⟨rfl, B⟩
  have BB : Hid (Below w.heap.size w w1) := B
  clear C HC
  go_wp2
  go_ret2
  exact ⟨_, rfl, BB.out.alloc BB.out.size _⟩

set_option maxRecDepth 100000 in
theorem akey_good (s : ByteArray) (w : World) (h1 : 1 ≤ s.size) (h2 : s.size ≤ 20) (hd : Ak.dec s.data.toList = true) :
    Calls Yba.prog 5 #[.string s] w fun e w' => ∃ v' w0, e = .returned (.tuple #[v', .nilIface]) ∧ w'.ownsRow w0.heap.size 5 1 v' 8 (octCells (Ak.num s.data.toList)) ∧ Below w.heap.size w w0 ∧ Below w0.heap.size w0 w' := by
  have g1 : ¬ (s.size : Int) < 1 := by omega
  have g2 : ¬ (20 : Int) < (s.size : Int) := by omega
  have C := decimal_any s w (by omega)
  rw [hd] at C
  go_enter Yba.func5, Yba.ntmps5
  go_wp2_with (fail)
  refine C.mono ?_
  rintro e w1 ⟨rfl, B⟩
  have BB : Hid (Below w.heap.size w w1) := B
  clear C B
  go_wp2_with (fail)
  go_region_with (first | (go_at_call 11; refine (number_any s _ (by omega)).mono ?_; rintro e2 w2 ⟨rfl, B2⟩) | (go_at_call 10; refine (append_any _ (Ak.num_lt _) _).mono ?_; rintro e3 w3 ⟨v3, rfl, own3, B3⟩))
  all_goals go_wp2
  all_goals go_ret2
  all_goals exact ⟨v3, w2, rfl, own3, (BB.out.drew).trans (B2.mono (by simpa using BB.out.size)), B3⟩
#print axioms akey_good
end Go.Proofs.Ybulkbjhg
