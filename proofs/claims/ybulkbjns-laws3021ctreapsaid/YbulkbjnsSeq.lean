/-
  zzs3021cwalk (12) WALKED: it appends the items in order.
-/
import Derived.Test.YbulkbjnsItems
import Derived.BigQuiet
namespace Go.Proofs.Ybulkbjns
open Go.RowKit

variable {N n : Nat} {nm : Nat → ByteArray} {pr : Nat → Int} {lk : Nat → Option Nat × Option Nat} {w : World}

theorem Items.below (h : Items w N n nm pr lk) {w' : World} {S : Nat} (hb : Below S w w') (hS : N + n ≤ S) : Items w' N n nm pr lk := fun i hi => by
  rw [hb.block _ (by omega)]; exact h i hi

/-- The value of an item. -/
def pi (N : Nat) (i : Nat) : Value := .pointer (some ⟨N + i, 0, none⟩)

theorem own_shape {w : World} {B e m : Nat} {v : Value} {xs : List Value} (h : w.ownsRow B e 1 v m xs) : ∃ a c, v = .slice a m c := by
  obtain ⟨_, ⟨rfl, rfl⟩ | ⟨g, c, _, rfl, _⟩⟩ := h
  · exact ⟨_, _, rfl⟩
  · exact ⟨_, _, rfl⟩

set_option maxRecDepth 100000 in
set_option maxHeartbeats 4000000 in
theorem seq_any (N n S : Nat) (nm : Nat → ByteArray) (pr : Nat → Int) (lk : Nat → Option Nat × Option Nat) (hS : N + n ≤ S) (hn : n ≤ 1024) (T : Tr) : ∀ (w : World) (a : Option Addr) (m c : Nat) (xs : List Value), Items w N n nm pr lk → T.In lk → (∀ j ∈ T.list, j < n) → w.heap[S]? = some (.cells #[.slice a m c] 41) → w.ownsRow (S + 1) 32 1 (.slice a m c) m xs → m + T.list.length ≤ n →
    Calls Yba.prog 12 #[.pointer (pa N T.root), .pointer (some ⟨S, 0, none⟩), .int .i64 n] w fun e w' => e = .returned (.tuple #[]) ∧ ∃ a' c', w'.heap[S]? = some (.cells #[.slice a' (m + T.list.length) c'] 41) ∧ w'.ownsRow (S + 1) 32 1 (.slice a' (m + T.list.length) c') (m + T.list.length) (xs ++ T.list.map (pi N)) ∧ Below S w w' := by
  induction T with
  | nil =>
    intro w a m c xs _ _ _ hb ho hm
    rw [show pa N Tr.nil.root = none from rfl]
    go_enter Yba.func12, Yba.ntmps12
    go_wp2_with (fail)
    refine bodyPost_ret (results_none rfl _ _ _) rfl ?_
    exact ⟨rfl, a, c, hb, by simpa [Tr.list] using ho, Below.refl _ _⟩
  | node i l r ihl ihr =>
    intro w a m c xs hI hT hlt hb ho hm
    rw [show pa N (Tr.node i l r).root = some ⟨N + i, 0, none⟩ from rfl]
    have hin : i < n := hlt i (by simp [Tr.list])
    have hln : ∀ j ∈ l.list, j < n := fun j hj => hlt j (by simp [Tr.list, hj])
    have hrn : ∀ j ∈ r.list, j < n := fun j hj => hlt j (by simp [Tr.list, hj])
    have hlen : (Tr.node i l r).list.length = l.list.length + 1 + r.list.length := by simp [Tr.list]; omega
    rw [hlen] at hm ⊢
    have hlist : xs ++ (Tr.node i l r).list.map (pi N) = (xs ++ l.list.map (pi N)) ++ [pi N i] ++ r.list.map (pi N) := by simp [Tr.list]
    rw [hlist]
    have CI := hI.cell hin
    rw [hT.1] at CI
    have c1 := CI.left
    have s1 : w.cell? ⟨S, 0, none⟩ = some (.slice a m c) := cell_of_row _ _ _ _ _ _ hb
    have hm1 : ¬ (n : Int) < (m : Int) := by omega
    have IHL := ihl w a m c xs hI hT.2.1 hln hb ho (by omega)
    have HI : Hid (Items w N n nm pr lk) := hI
    have HR : Hid (r.In lk ∧ (∀ j ∈ r.list, j < n) ∧ lk i = (l.root, r.root)) := ⟨hT.2.2, hrn, hT.1⟩
    clear ihl hI hT hlt hln hrn CI hb ho hlen hlist
    obtain ⟨i0, hi, hz0⟩ := Option.map_eq_some_iff.1 (show (Yba.prog.info? 32).map (fun i => (i.zero, i.size, i.bytes)) = some (some (.pointer none), 1, 8) by kernel_rfl)
    simp only [Prod.mk.injEq] at hz0
    obtain ⟨hz0, hz1, hz2⟩ := hz0
    go_enter Yba.func12, Yba.ntmps12
    go_wp2_with (fail)
    refine IHL.mono ?_
    rintro e w1 ⟨rfl, a1, cc1, hb1, ho1, B1⟩
    have s2 : w1.cell? ⟨S, 0, none⟩ = some (.slice a1 (m + l.list.length) cc1) := cell_of_row _ _ _ _ _ _ hb1
    have HO1 : Hid (w1.ownsRow (S + 1) 32 1 (.slice a1 (m + l.list.length) cc1) (m + l.list.length) (xs ++ l.list.map (pi N))) := ho1
    have HB1 : Hid (w1.heap[S]? = some (.cells #[.slice a1 (m + l.list.length) cc1] 41)) := hb1
    have HBB : Hid (Below S w w1) := B1
    have hSw : S < w1.heap.size := by
      rcases Nat.lt_or_ge S w1.heap.size with h | h
      · exact h
      · simp [Array.getElem?_eq_none h] at hb1
    clear ho1 hb1 B1 IHL c1 s1
    go_wp2_with (at_builtin; refine wpList_append_own _ rfl _ _ 41 rfl (S + 1) 32 i0 (.pointer none) 1 8 Yba.underlying41 hi hz0 hz1 hz2 rfl (by decide) _ _ _ rfl (HO1.out.alloc _) _ 1 1 [pi N i] rfl rfl ?c1 ?c2 ?c3 ?c4 ?c5 ?_)
    case c1 =>
      intro j u hj
      match j, hj with
      | 0, hj => simp at hj; subst hj; simp [Addr.add, pi]
    case c2 => intro u hu; simp at hu; subst hu; rfl
    case c3 => unfold maxLen; omega
    case c4 => omega
    case c5 => simp; omega
    intro v' w2 hown' hgrow _
    obtain ⟨a2, c2, rfl⟩ := own_shape hown'
    have HO2 : Hid (w2.ownsRow (S + 1) 32 1 (.slice a2 (m + l.list.length + 1) c2) (m + l.list.length + 1) (xs ++ l.list.map (pi N) ++ [pi N i])) := by
      rw [List.append_assoc]; exact hown'
    have hB2 : Below S w w2 := (HBB.out.alloc (by omega) _).grown hgrow (by simp; omega) (fun j hj => Nat.le_trans (Nat.le_succ S) (HO1.out.lt j hj).1)
    have hb2 : w2.heap[S]? = some (.cells #[.slice a1 (m + l.list.length) cc1] 41) := by
      rw [hgrow.block S (by simp; omega) (fun e => by have := (HO1.out.lt S e.symm).1; omega), Below.heap_alloc _ _ _ hSw]
      exact HB1.out
    have s3 : w2.cell? ⟨S, 0, none⟩ = some (.slice a1 (m + l.list.length) cc1) := cell_of_row _ _ _ _ _ _ hb2
    have s4 : w2.frozen? ⟨S, 0, none⟩ = false := frozen_of_row _ _ _ _ _ hb2
    generalize hW3 : w2.setCell ⟨S, 0, none⟩ (.slice a2 (m + l.list.length + 1) c2) = w3
    have hb3 : w3.heap[S]? = some (.cells #[.slice a2 (m + l.list.length + 1) c2] 41) := by
      rw [← hW3, setCell_block _ _ _ _ _ _ hb2]; rfl
    have hB3 : Below S w w3 := by rw [← hW3]; exact hB2.setCell (Nat.le_refl _) _
    have ho3 : w3.ownsRow (S + 1) 32 1 (.slice a2 (m + l.list.length + 1) c2) (m + l.list.length + 1) (xs ++ l.list.map (pi N) ++ [pi N i]) := by
      rw [← hW3]; exact ownsRow_setCell_below HO2.out (Nat.lt_succ_self S) _
    have hI3 := HI.out.below hB3 hS
    have CI3 := hI3.cell hin
    rw [HR.out.2.2] at CI3
    have c3 := CI3.right
    have IHR := ihr w3 a2 (m + l.list.length + 1) c2 _ hI3 HR.out.1 HR.out.2.1 hb3 ho3 (by omega)
    have HB3 : Hid (Below S w w3) := hB3
    clear hgrow hown' hB2 hb2 hb3 hB3 ho3 hI3 CI3 ihr HO2 s2
    go_wp2_with (fail)
    refine IHR.mono ?_
    rintro e w4 ⟨rfl, a4, c4, hb4, ho4, B4⟩
    go_wp2_with (fail)
    go_end0
    rw [show m + (l.list.length + 1 + r.list.length) = m + l.list.length + 1 + r.list.length by omega]
    exact ⟨rfl, a4, c4, hb4, ho4, HB3.out.trans B4⟩
#print axioms seq_any
end Go.Proofs.Ybulkbjns
