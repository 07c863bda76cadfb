/-
  THE WALK OF (*Sieve).Admits (5).
-/
import Derived.Test.YbulkbjloReaders
namespace Go.Proofs.Ybulkbjlo
open Go.RowKit Go.Sort

/-- What Admits answers. -/
def admits (imp imported : Bool) (p t since : Int) (want : Option Int) : Bool :=
  (imp == imported) && ((match want with | none => true | some q => p == q) && (since == 0 || decide (since ≤ t)))

set_option maxHeartbeats 2000000 in
set_option maxRecDepth 100000 in
theorem admits_nil (vb g n c : Nat) (R : Nat → UInt8) (imp imported : Bool) (t since : Int) (w : World) (hn : 21 ≤ n) (hnc : n ≤ c) (hg : g < w.heap.size)
    (hc : ∀ j, j < 21 → w.cell? ⟨g, 0 + j, none⟩ = some (.int .u8 (R j).toNat)) (himp : (bits .and .u8 ((R 20).toNat : Int) 1 != 0) = imp) (ht : IntKind.i64.wrap (le8 R : Nat) = t)
    (v0 : w.cell? ⟨vb, 0, none⟩ = some (.bool imported)) (v1 : w.cell? ⟨vb, 1, none⟩ = some (.pointer none)) (v2 : w.cell? ⟨vb, 2, none⟩ = some (.int .i64 since)) :
    Calls Yba.prog 5 #[.pointer (some ⟨vb, 0, none⟩), .slice (some ⟨g, 0, none⟩) n c] w fun e w' => e = .returned (.bool (admits imp imported 0 t since none)) ∧ Below w.heap.size w w' := by
  have c7 : ∀ d os, Calls Yba.prog 7 #[.slice (some ⟨g, 0, none⟩) n c] (grow (redrawn w d) os) fun e w'' => e = .returned (.bool imp) ∧ ∃ p : Regrown, w'' = grow (redrawn w p.d) p.os := fun d os =>
    Calls.regrown_of ((imported_any g n c (R 20) imp _ hn (by have := cell_regrown (hc 20 (by omega)) d os; rwa [Nat.zero_add] at this) himp).mono fun e w' ⟨he, hw⟩ => ⟨he, by rw [hw]; exact Below.refl _ _⟩)
  have c9 : ∀ d os, Calls Yba.prog 9 #[.slice (some ⟨g, 0, none⟩) n c] (grow (redrawn w d) os) fun e w'' => e = .returned (.int .i64 t) ∧ ∃ p : Regrown, w'' = grow (redrawn w p.d) p.os := fun d os =>
    Calls.regrown_of (time_any g n c R t _ hn (Nat.lt_of_lt_of_le hg (below_regrown w d os).size) (fun j hj => cell_regrown (hc j hj) d os) ht)
  have _ := hnc
  have k0 := cell_regrown v0
  have k1 := cell_regrown v1
  have k2 := cell_regrown v2
  clear hc himp ht v0 v1 v2
  cases h1 : (imp == imported)
  · have HA : Hid (admits imp imported 0 t since none = false) := by show _ = _; simp only [admits, h1, Bool.false_and]
    go_enter Yba.func5, Yba.ntmps5
    go_wp2_with (fail)
    refine wp_region_quiet_below (by kernel_rfl) (by kernel_rfl) ?_
    repeat (first | go_big_quiet_step (first | exact c7 _ _ | exact c9 _ _) | quiet_step (first | exact c7 _ _ | exact c9 _ _))
    refine wpQuiet_nil ?_
    intro _ hw'
    obtain ⟨⟨dq, osq⟩, hw''⟩ := hw'
    subst hw''
    go_wp2_with (fail)
    go_ret
    exact ⟨by rw [HA.out]; rfl, below_regrown w dq osq⟩
  · cases h2 : (since == 0)
    · by_cases h3 : since ≤ t
      · have HA : Hid (admits imp imported 0 t since none = true) := by show _ = _; simp [admits, h1, h2, h3]
        go_enter Yba.func5, Yba.ntmps5
        go_wp2_with (fail)
        refine wp_region_quiet_below (by kernel_rfl) (by kernel_rfl) ?_
        repeat (first | go_big_quiet_step (first | exact c7 _ _ | exact c9 _ _) | quiet_step (first | exact c7 _ _ | exact c9 _ _))
        refine wpQuiet_nil ?_
        intro _ hw'
        obtain ⟨⟨dq, osq⟩, hw''⟩ := hw'
        subst hw''
        go_wp2_with (fail)
        go_ret
        exact ⟨by rw [HA.out]; rfl, below_regrown w dq osq⟩
      · have HA : Hid (admits imp imported 0 t since none = false) := by show _ = _; simp [admits, h1, h2, h3]
        have h3' : decide (since ≤ t) = false := by simp; omega
        go_enter Yba.func5, Yba.ntmps5
        go_wp2_with (fail)
        refine wp_region_quiet_below (by kernel_rfl) (by kernel_rfl) ?_
        repeat (first | go_big_quiet_step (first | exact c7 _ _ | exact c9 _ _) | quiet_step (first | exact c7 _ _ | exact c9 _ _))
        refine wpQuiet_nil ?_
        intro _ hw'
        obtain ⟨⟨dq, osq⟩, hw''⟩ := hw'
        subst hw''
        go_wp2_with (fail)
        go_ret
        exact ⟨by rw [HA.out]; rfl, below_regrown w dq osq⟩
    · have HA : Hid (admits imp imported 0 t since none = true) := by show _ = _; simp [admits, h1, h2]
      go_enter Yba.func5, Yba.ntmps5
      go_wp2_with (fail)
      refine wp_region_quiet_below (by kernel_rfl) (by kernel_rfl) ?_
      repeat (first | go_big_quiet_step (first | exact c7 _ _ | exact c9 _ _) | quiet_step (first | exact c7 _ _ | exact c9 _ _))
      refine wpQuiet_nil ?_
      intro _ hw'
      obtain ⟨⟨dq, osq⟩, hw''⟩ := hw'
      subst hw''
      go_wp2_with (fail)
      go_ret
      exact ⟨by rw [HA.out]; rfl, below_regrown w dq osq⟩
#print axioms admits_nil
set_option maxHeartbeats 2000000 in
set_option maxRecDepth 100000 in
theorem admits_pid (vb g n c : Nat) (R : Nat → UInt8) (imp imported : Bool) (t since : Int) (p q : Int) (pb : Nat) (w : World) (hn : 21 ≤ n) (hnc : n ≤ c) (hg : g < w.heap.size)
    (hc : ∀ j, j < 21 → w.cell? ⟨g, 0 + j, none⟩ = some (.int .u8 (R j).toNat)) (himp : (bits .and .u8 ((R 20).toNat : Int) 1 != 0) = imp) (ht : IntKind.i64.wrap (le8 R : Nat) = t)
    (v0 : w.cell? ⟨vb, 0, none⟩ = some (.bool imported)) (v1 : w.cell? ⟨vb, 1, none⟩ = some (.pointer (some ⟨pb, 0, none⟩))) (v2 : w.cell? ⟨vb, 2, none⟩ = some (.int .i64 since)) (v3 : w.cell? ⟨pb, 0, none⟩ = some (.int .i32 q)) (hp : IntKind.i32.wrap (le4 (fun j => R (8 + j)) : Nat) = p) :
    Calls Yba.prog 5 #[.pointer (some ⟨vb, 0, none⟩), .slice (some ⟨g, 0, none⟩) n c] w fun e w' => e = .returned (.bool (admits imp imported p t since (some q))) ∧ Below w.heap.size w w' := by
  have c7 : ∀ d os, Calls Yba.prog 7 #[.slice (some ⟨g, 0, none⟩) n c] (grow (redrawn w d) os) fun e w'' => e = .returned (.bool imp) ∧ ∃ p : Regrown, w'' = grow (redrawn w p.d) p.os := fun d os =>
    Calls.regrown_of ((imported_any g n c (R 20) imp _ hn (by have := cell_regrown (hc 20 (by omega)) d os; rwa [Nat.zero_add] at this) himp).mono fun e w' ⟨he, hw⟩ => ⟨he, by rw [hw]; exact Below.refl _ _⟩)
  have c9 : ∀ d os, Calls Yba.prog 9 #[.slice (some ⟨g, 0, none⟩) n c] (grow (redrawn w d) os) fun e w'' => e = .returned (.int .i64 t) ∧ ∃ p : Regrown, w'' = grow (redrawn w p.d) p.os := fun d os =>
    Calls.regrown_of (time_any g n c R t _ hn (Nat.lt_of_lt_of_le hg (below_regrown w d os).size) (fun j hj => cell_regrown (hc j hj) d os) ht)
  have c8 : ∀ d os, Calls Yba.prog 8 #[.slice (some ⟨g, 0, none⟩) n c] (grow (redrawn w d) os) fun e w'' => e = .returned (.int .i32 p) ∧ ∃ p : Regrown, w'' = grow (redrawn w p.d) p.os := fun d os =>
    Calls.regrown_of (pid_any g n c R p _ hn hnc (Nat.lt_of_lt_of_le hg (below_regrown w d os).size) (fun j hj => cell_regrown (hc j hj) d os) hp)
  have k3 := cell_regrown v3
  clear hp v3
  have k0 := cell_regrown v0
  have k1 := cell_regrown v1
  have k2 := cell_regrown v2
  clear hc himp ht v0 v1 v2
  cases h1 : (imp == imported)
  · have HA : Hid (admits imp imported p t since (some q) = false) := by show _ = _; simp only [admits, h1, Bool.false_and]
    go_enter Yba.func5, Yba.ntmps5
    go_wp2_with (fail)
    refine wp_region_quiet_below (by kernel_rfl) (by kernel_rfl) ?_
    repeat (first | go_big_quiet_step (first | exact c7 _ _ | exact c8 _ _ | exact c9 _ _) | quiet_step (first | exact c7 _ _ | exact c8 _ _ | exact c9 _ _))
    refine wpQuiet_nil ?_
    intro _ hw'
    obtain ⟨⟨dq, osq⟩, hw''⟩ := hw'
    subst hw''
    go_wp2_with (fail)
    go_ret
    exact ⟨by rw [HA.out]; rfl, below_regrown w dq osq⟩
  · cases hq : (p == q)
    · have HA : Hid (admits imp imported p t since (some q) = false) := by show _ = _; simp only [admits, h1, hq, Bool.false_and, Bool.and_false]
      go_enter Yba.func5, Yba.ntmps5
      go_wp2_with (fail)
      refine wp_region_quiet_below (by kernel_rfl) (by kernel_rfl) ?_
      repeat (first | go_big_quiet_step (first | exact c7 _ _ | exact c8 _ _ | exact c9 _ _) | quiet_step (first | exact c7 _ _ | exact c8 _ _ | exact c9 _ _))
      refine wpQuiet_nil ?_
      intro _ hw'
      obtain ⟨⟨dq, osq⟩, hw''⟩ := hw'
      subst hw''
      go_wp2_with (fail)
      go_ret
      exact ⟨by rw [HA.out]; rfl, below_regrown w dq osq⟩
    · cases h2 : (since == 0)
      · by_cases h3 : since ≤ t
        · have HA : Hid (admits imp imported p t since (some q) = true) := by show _ = _; simp [admits, h1, h2, h3, hq]
          go_enter Yba.func5, Yba.ntmps5
          go_wp2_with (fail)
          refine wp_region_quiet_below (by kernel_rfl) (by kernel_rfl) ?_
          repeat (first | go_big_quiet_step (first | exact c7 _ _ | exact c8 _ _ | exact c9 _ _) | quiet_step (first | exact c7 _ _ | exact c8 _ _ | exact c9 _ _))
          refine wpQuiet_nil ?_
          intro _ hw'
          obtain ⟨⟨dq, osq⟩, hw''⟩ := hw'
          subst hw''
          go_wp2_with (fail)
          go_ret
          exact ⟨by rw [HA.out]; rfl, below_regrown w dq osq⟩
        · have HA : Hid (admits imp imported p t since (some q) = false) := by show _ = _; simp [admits, h1, h2, h3, hq]
          have h3' : decide (since ≤ t) = false := by simp; omega
          go_enter Yba.func5, Yba.ntmps5
          go_wp2_with (fail)
          refine wp_region_quiet_below (by kernel_rfl) (by kernel_rfl) ?_
          repeat (first | go_big_quiet_step (first | exact c7 _ _ | exact c8 _ _ | exact c9 _ _) | quiet_step (first | exact c7 _ _ | exact c8 _ _ | exact c9 _ _))
          refine wpQuiet_nil ?_
          intro _ hw'
          obtain ⟨⟨dq, osq⟩, hw''⟩ := hw'
          subst hw''
          go_wp2_with (fail)
          go_ret
          exact ⟨by rw [HA.out]; rfl, below_regrown w dq osq⟩
      · have HA : Hid (admits imp imported p t since (some q) = true) := by show _ = _; simp [admits, h1, h2, hq]
        go_enter Yba.func5, Yba.ntmps5
        go_wp2_with (fail)
        refine wp_region_quiet_below (by kernel_rfl) (by kernel_rfl) ?_
        repeat (first | go_big_quiet_step (first | exact c7 _ _ | exact c8 _ _ | exact c9 _ _) | quiet_step (first | exact c7 _ _ | exact c8 _ _ | exact c9 _ _))
        refine wpQuiet_nil ?_
        intro _ hw'
        obtain ⟨⟨dq, osq⟩, hw''⟩ := hw'
        subst hw''
        go_wp2_with (fail)
        go_ret
        exact ⟨by rw [HA.out]; rfl, below_regrown w dq osq⟩
#print axioms admits_pid
end Go.Proofs.Ybulkbjlo
