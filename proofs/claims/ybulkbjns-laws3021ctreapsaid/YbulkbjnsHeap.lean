/-
  zzs3021cheap (15) WALKED: it only reads.
-/
import Derived.Test.YbulkbjnsItems
import Derived.BigQuiet
namespace Go.Proofs.Ybulkbjns
open Go.RowKit

theorem drewN_drewN (w : World) (a b : Nat) : (w.drewN a).drewN b = w.drewN (a + b) := by simp [World.drewN, Nat.add_assoc]

set_option maxRecDepth 100000 in
set_option maxHeartbeats 4000000 in
theorem heap_any (N n : Nat) (nm : Nat → ByteArray) (pr : Nat → Int) (lk : Nat → Option Nat × Option Nat) (T : Tr) : ∀ (w : World) (d : Nat), Items w N n nm pr lk → T.In lk → (∀ j ∈ T.list, j < n) → T.Heap pr → d + T.height ≤ 2048 →
    Calls Yba.prog 15 #[.pointer (pa N T.root), .int .i64 d] w fun e w' => e = .returned (.bool true) ∧ ∃ q, w' = w.drewN q := by
  induction T with
  | nil =>
    intro w d _ _ _ _ _
    rw [show pa N Tr.nil.root = none from rfl]
    go_enter Yba.func15, Yba.ntmps15
    go_wp2_with (fail)
    go_ret
    exact ⟨rfl, 0, rfl⟩
  | node i l r ihl ihr =>
    intro w d hI hT hlt hh hd
    rw [show pa N (Tr.node i l r).root = some ⟨N + i, 0, none⟩ from rfl]
    have hin : i < n := hlt i (by simp [Tr.list])
    have hln : ∀ j ∈ l.list, j < n := fun j hj => hlt j (by simp [Tr.list, hj])
    have hrn : ∀ j ∈ r.list, j < n := fun j hj => hlt j (by simp [Tr.list, hj])
    have CI := hI.cell hin
    rw [hT.1] at CI
    have c1 := CI.left
    have c2 := CI.right
    have c3 := CI.prio
    have hd1 : ¬ (2048 : Int) < (d : Int) := by simp only [Tr.height] at hd; omega
    have IHL : ∀ q, Hid (Calls Yba.prog 15 #[.pointer (pa N l.root), .int .i64 ((d : Int) + 1)] (w.drewN q) fun e w' => e = .returned (.bool true) ∧ ∃ q', w' = (w.drewN q).drewN q') := fun q =>
      by have := ihl (w.drewN q) (d + 1) (items_drewN hI q) hT.2.1 hln hh.2.2.1 (by simp only [Tr.height] at hd; omega); rw [Int.natCast_add] at this; exact this
    have IHR : ∀ q, Hid (Calls Yba.prog 15 #[.pointer (pa N r.root), .int .i64 ((d : Int) + 1)] (w.drewN q) fun e w' => e = .returned (.bool true) ∧ ∃ q', w' = (w.drewN q).drewN q') := fun q =>
      by have := ihr (w.drewN q) (d + 1) (items_drewN hI q) hT.2.2 hrn hh.2.2.2 (by simp only [Tr.height] at hd; omega); rw [Int.natCast_add] at this; exact this
    clear ihl ihr hlt
    cases l with
    | nil =>
      cases r with
      | nil =>
        rw [show pa N Tr.nil.root = none from rfl] at c1 IHL
        rw [show pa N Tr.nil.root = none from rfl] at c2 IHR
        clear hI hT hln hrn hh hd CI
        go_enter Yba.func15, Yba.ntmps15
        go_wp2_with (fail)
        go_quiet (fail)
        go_wp2_with (fail)
        go_quiet (fail)
        go_wp2_with (fail)
        refine (IHL _).out.mono ?_
        rintro e w1 ⟨rfl, q1, rfl⟩
        rw [drewN_drewN]
        go_wp2_with (fail)
        refine (IHR _).out.mono ?_
        rintro e w2 ⟨rfl, q2, rfl⟩
        rw [drewN_drewN]
        go_wp2_with (fail)
        go_ret
        exact ⟨rfl, _, rfl⟩
      | node v vl vr =>
        rw [show pa N Tr.nil.root = none from rfl] at c1 IHL
        have e2 := (hI.cell (hrn v (by simp [Tr.list]))).prio
        have g2 : decide (pr i < pr v) = false := decide_eq_false (by have := hh.2.1 v (by simp [Tr.list]); omega)
        rw [show pa N (Tr.node v vl vr).root = some ⟨N + v, 0, none⟩ from rfl] at c2 IHR
        clear hI hT hln hrn hh hd CI
        go_enter Yba.func15, Yba.ntmps15
        go_wp2_with (fail)
        go_quiet (fail)
        go_wp2_with (fail)
        go_quiet (fail)
        go_wp2_with (fail)
        refine (IHL _).out.mono ?_
        rintro e w1 ⟨rfl, q1, rfl⟩
        rw [drewN_drewN]
        go_wp2_with (fail)
        refine (IHR _).out.mono ?_
        rintro e w2 ⟨rfl, q2, rfl⟩
        rw [drewN_drewN]
        go_wp2_with (fail)
        go_ret
        exact ⟨rfl, _, rfl⟩
    | node u ul ur =>
      cases r with
      | nil =>
        have e1 := (hI.cell (hln u (by simp [Tr.list]))).prio
        have g1 : decide (pr i < pr u) = false := decide_eq_false (by have := hh.1 u (by simp [Tr.list]); omega)
        rw [show pa N (Tr.node u ul ur).root = some ⟨N + u, 0, none⟩ from rfl] at c1 IHL
        rw [show pa N Tr.nil.root = none from rfl] at c2 IHR
        clear hI hT hln hrn hh hd CI
        go_enter Yba.func15, Yba.ntmps15
        go_wp2_with (fail)
        go_quiet (fail)
        go_wp2_with (fail)
        go_quiet (fail)
        go_wp2_with (fail)
        refine (IHL _).out.mono ?_
        rintro e w1 ⟨rfl, q1, rfl⟩
        rw [drewN_drewN]
        go_wp2_with (fail)
        refine (IHR _).out.mono ?_
        rintro e w2 ⟨rfl, q2, rfl⟩
        rw [drewN_drewN]
        go_wp2_with (fail)
        go_ret
        exact ⟨rfl, _, rfl⟩
      | node v vl vr =>
        have e1 := (hI.cell (hln u (by simp [Tr.list]))).prio
        have g1 : decide (pr i < pr u) = false := decide_eq_false (by have := hh.1 u (by simp [Tr.list]); omega)
        rw [show pa N (Tr.node u ul ur).root = some ⟨N + u, 0, none⟩ from rfl] at c1 IHL
        have e2 := (hI.cell (hrn v (by simp [Tr.list]))).prio
        have g2 : decide (pr i < pr v) = false := decide_eq_false (by have := hh.2.1 v (by simp [Tr.list]); omega)
        rw [show pa N (Tr.node v vl vr).root = some ⟨N + v, 0, none⟩ from rfl] at c2 IHR
        clear hI hT hln hrn hh hd CI
        go_enter Yba.func15, Yba.ntmps15
        go_wp2_with (fail)
        go_quiet (fail)
        go_wp2_with (fail)
        go_quiet (fail)
        go_wp2_with (fail)
        refine (IHL _).out.mono ?_
        rintro e w1 ⟨rfl, q1, rfl⟩
        rw [drewN_drewN]
        go_wp2_with (fail)
        refine (IHR _).out.mono ?_
        rintro e w2 ⟨rfl, q2, rfl⟩
        rw [drewN_drewN]
        go_wp2_with (fail)
        go_ret
        exact ⟨rfl, _, rfl⟩
#print axioms heap_any
end Go.Proofs.Ybulkbjns
