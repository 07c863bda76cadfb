/-
  slices.Clone (13) WALKED.
-/
import Derived.Test.YbulkbjnsSeq
import Derived.Shelf.Sort.Plain
import Derived.Shelf.Lay
import Derived.Sort.OwnSorted
namespace Go.Proofs.Ybulkbjns
open Go.RowKit

theorem add_block (ad : Addr) (j : Nat) : (ad.add j).block = ad.block := by
  unfold Addr.add
  split <;> rfl

set_option maxRecDepth 100000 in
set_option maxHeartbeats 4000000 in
theorem clone_any (a : Option Addr) (len cap : Nat) (w : World) (xs : List Value) (hl : len ≤ 1024) (hx : xs.length = len) (hnil : a = none → len = 0 ∧ cap = 0) (h1 : ∀ u ∈ xs, u.oneCell' = true) (hcell : ∀ ad, a = some ad → ∀ j u, xs[j]? = some u → ad.block < w.heap.size ∧ w.cell? (ad.add j) = some u) :
    Calls Yba.prog 13 #[.slice a len cap] w fun e w' => ∃ v, e = .returned v ∧ w'.ownsRow w.heap.size 9 1 v len xs ∧ Below w.heap.size w w' := by
  obtain ⟨i0, hi, hz0⟩ := Option.map_eq_some_iff.1 (show (Yba.prog.info? 9).map (fun i => (i.zero, i.size, i.bytes)) = some (some (.string ⟨#[]⟩), 1, 16) by kernel_rfl)
  simp only [Prod.mk.injEq] at hz0
  obtain ⟨hz0, hz1, hz2⟩ := hz0
  cases a with
  | none =>
    obtain ⟨rfl, rfl⟩ := hnil rfl
    clear hnil hcell
    have he : ∀ w : World, (binOp .eql 30 (.slice none 0 0) (.slice none 0 0)).run Yba.prog w = .ok (.bool true) w := fun _ => rfl
    go_enter Yba.func13, Yba.ntmps13
    go_wp2_with (fail)
    go_ret
    obtain rfl : xs = [] := List.length_eq_zero_iff.1 hx
    exact ⟨_, rfl, World.ownsRow_nil _ _ _ _, Below.refl _ _⟩
  | some ad =>
    have HC : Hid (∀ j u, xs[j]? = some u → ad.block < w.heap.size ∧ w.cell? (ad.add j) = some u) := hcell ad rfl
    clear hnil hcell
    have he : ∀ w : World, (binOp .eql 30 (.slice (some ad) len cap) (.slice none 0 0)).run Yba.prog w = .ok (.bool false) w := fun _ => rfl
    go_enter Yba.func13, Yba.ntmps13
    go_wp2_with (at_builtin; refine wpList_append_own _ rfl _ _ 30 rfl w.heap.size 9 i0 (.string ⟨#[]⟩) 1 16 Yba.underlying30 hi hz0 hz1 hz2 rfl (by decide) _ 0 [] rfl ?c0 ad len cap xs rfl ?c6 ?c1 ?c2 ?c3 ?c4 ?c5 ?_)
    case c0 => exact World.ownsRow_lit _ #[] 0 (Nat.le_refl _) (Nat.zero_le _) rfl
    case c1 =>
      intro j u hj
      rw [World.cell?_alloc_old _ _ _ (by have := (HC.out j u hj).1; rw [add_block]; omega)]
      exact (HC.out j u hj).2
    case c2 => exact h1
    case c3 => unfold maxLen; omega
    case c4 => omega
    case c5 => simp
    case c6 => omega
    intro v w1 hown hgrow _
    go_wp2_with (fail)
    go_ret
    exact ⟨_, rfl, hown, ((Below.refl _ w).alloc (Nat.le_refl _) _).grown hgrow (by simp) (fun k hk => by simp [Value.ownBlock] at hk; omega)⟩
#print axioms clone_any

/-! ### slices.Sort -/
open Go.Shelf Go.Sort
shelf_lay Lays.n190 Nm 190 at Yba as Yba.lays190

theorem sort_some (B g len cap : Nat) (cur : Array Value) (ss : List (List UInt8)) (w : World) (hB : B ≤ g) (hb : w.heap[g]? = some (.cells cur 9 (0, 0))) (hl : ss.length = len) (h1 : len ≤ cap) (h2 : cap ≤ maxLen) (h3 : cur.size = cap * 1) (h4 : cur.toList.take (len * 1) = ss.map encStr) (h5 : len ≤ 1024) (hBw : B ≤ w.heap.size) :
    Calls Yba.prog 14 #[.slice (some ⟨g, 0, none⟩) len cap] w fun e w' => e = .returned (.tuple #[]) ∧ w'.ownsRow B 9 1 (.slice (some ⟨g, 0, none⟩) len cap) len ((ss.mergeSort fun x y => decide (x ≤ y)).map encStr) ∧ Below B w w' := by
  subst hl
  have hg : g < w.heap.size := (Array.getElem?_eq_some_iff.1 hb).1
  have hH := holds_of_block hb (by simpa using h4)
  have h := Any.slices_Sort_string Yba.lays190 g 0 cap ss w hH hg (by omega)
  refine Calls.mono (f := 14) h ?_
  rintro e w' ⟨rfl, n, os, rfl⟩
  exact ⟨rfl, ownsRow_sorted (by simp) hB hb h1 h2 h3, (Below.refl B w).grown (grownBy_sorted _) hBw (fun k hk => by cases hk; exact hB)⟩

theorem ins_nil (p : Option Addr) (cap : Nat) (w : World) :
    Calls Yba.prog 18 #[.slice p 0 cap, .int .i64 0, .int .i64 0] w fun e w' => e = .returned (.tuple #[]) ∧ w' = w := by
  go_enter Yba.func18, Yba.ntmps18
  go_wp2_with (fail)
  refine wp_loop_rounds 1 ?_
  rw [rounds_succ]
  go_wp2_with (fail)
  go_end0
  exact ⟨rfl, rfl⟩

set_option maxRecDepth 100000 in
theorem pdq_nil (p : Option Addr) (cap : Nat) (w : World) :
    Calls Yba.prog 16 #[.slice p 0 cap, .int .i64 0, .int .i64 0, .int .i64 0] w fun e w' => e = .returned (.tuple #[]) ∧ w' = w := by
  go_enter Yba.func16, Yba.ntmps16
  go_wp2_with (fail)
  refine wp_loop_rounds 1 ?_
  rw [rounds_succ]
  go_wp2_with (fail)
  refine (ins_nil p cap _).mono ?_
  rintro e w' ⟨rfl, rfl⟩
  go_wp2_with (fail)
  refine bodyPost_ret (results_none rfl _ _ _) rfl ?_
  exact ⟨rfl, rfl⟩

set_option maxRecDepth 100000 in
theorem len_nil (w : World) : Calls Yba.prog 17 #[.int .u64 0] w fun e w' => e = .returned (.int .i64 0) ∧ w' = w := by
  go_enter Yba.func17, Yba.ntmps17
  go_wp2
  go_ret
  exact ⟨by show Ending.returned (Value.int .i64 (wrap64 (wrap64 (Lib.len8 0)))) = _; rw [show wrap64 (wrap64 (Lib.len8 0)) = 0 by kernel_rfl], rfl⟩

set_option maxRecDepth 100000 in
theorem sort_nil (p : Option Addr) (cap : Nat) (w : World) :
    Calls Yba.prog 14 #[.slice p 0 cap] w fun e w' => e = .returned (.tuple #[]) ∧ w' = w := by
  go_enter Yba.func14, Yba.ntmps14
  go_wp2_with (fail)
  refine (len_nil _).mono ?_
  rintro e w' ⟨rfl, rfl⟩
  go_wp2_with (fail)
  refine (pdq_nil _ _ _).mono ?_
  rintro e w' ⟨rfl, rfl⟩
  go_wp2_with (fail)
  go_end0
  exact ⟨rfl, rfl⟩

/-- slices.Sort OF A ROW OF THE CALL's OWN. -/
theorem sort_own (B len : Nat) (v : Value) (ss : List (List UInt8)) (w : World) (h : w.ownsRow B 9 1 v len (ss.map encStr)) (h5 : len ≤ 1024) (hB : B ≤ w.heap.size) :
    Calls Yba.prog 14 #[v] w fun e w' => e = .returned (.tuple #[]) ∧ w'.ownsRow B 9 1 v len ((ss.mergeSort fun x y => decide (x ≤ y)).map encStr) ∧ Below B w w' := by
  obtain ⟨hl, ⟨rfl, rfl⟩ | ⟨g, c, cur, rfl, hbg, hb, h1, h2, h3, h4⟩⟩ := h
  · refine (sort_nil none 0 w).mono ?_
    rintro e w' ⟨rfl, rfl⟩
    obtain rfl : ss = [] := by simpa using hl
    exact ⟨rfl, by simpa using World.ownsRow_nil _ _ _ _, Below.refl _ _⟩
  · exact sort_some B g len c cur ss w hbg hb (by simpa using hl) h1 h2 h3 h4 h5 hB
#print axioms sort_own
#print axioms sort_nil
end Go.Proofs.Ybulkbjns
