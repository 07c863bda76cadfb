/-
  THE LAW (5): ITS STATE, AND THE WALK.
-/
import Derived.Test.YbulkbjnsSort
import Derived.Test.YbulkbjnsHeap
import Derived.Sort.KeysCollected
namespace Go.Proofs.Ybulkbjns
open Go.RowKit

/-- The name of item i, as it lies in a cell. -/
def nmOf (ss : List (List UInt8)) (i : Nat) : ByteArray := ⟨(ss.getD i []).toArray⟩
theorem nmOf_toList (ss : List (List UInt8)) (i : Nat) : (nmOf ss i).toList = ss.getD i [] := by simp [nmOf]
/-- The priority of item i. -/
def prOf (zs : List Int) (i : Nat) : Int := if zs.length = 0 then 0 else zs.getD (i % zs.length) 0

/-- WHAT STANDS WHEN i ITEMS HAVE BEEN PUT IN. -/
structure St (w : World) (N i : Nat) (ss : List (List UInt8)) (zs : List Int) (T : Tr) (lk : Nat → Option Nat × Option Nat) : Prop where
  items : Items w N i (nmOf ss) (prOf zs) lk
  inn : T.In lk
  perm : T.list.Perm (List.range i)
  heap : T.Heap (prOf zs)
  sorted : T.list.Pairwise fun a b => ss.getD a [] ≤ ss.getD b []

theorem St.lt {w : World} {N i : Nat} {ss : List (List UInt8)} {zs : List Int} {T : Tr} {lk : Nat → Option Nat × Option Nat} (h : St w N i ss zs T lk) : ∀ j ∈ T.list, j < i := fun _ hj => List.mem_range.1 (h.perm.mem_iff.1 hj)
theorem St.nodup {w : World} {N i : Nat} {ss : List (List UInt8)} {zs : List Int} {T : Tr} {lk : Nat → Option Nat × Option Nat} (h : St w N i ss zs T lk) : T.list.Nodup := h.perm.nodup_iff.2 List.nodup_range
theorem St.length {w : World} {N i : Nat} {ss : List (List UInt8)} {zs : List Int} {T : Tr} {lk : Nat → Option Nat × Option Nat} (h : St w N i ss zs T lk) : T.list.length = i := by rw [h.perm.length_eq, List.length_range]

theorem St.start (w : World) (N : Nat) (ss : List (List UInt8)) (zs : List Int) (lk : Nat → Option Nat × Option Nat) : St w N 0 ss zs .nil lk :=
  ⟨fun i hi => absurd hi (Nat.not_lt_zero i), trivial, List.Perm.refl _, trivial, List.Pairwise.nil⟩

/-- insertItem ON THE STATE. -/
theorem St.insert {w : World} {N i : Nat} {ss : List (List UInt8)} {zs : List Int} {T : Tr} {lk : Nat → Option Nat × Option Nat} (h : St w N i ss zs T lk) (hs : w.heap.size = N + i) (w1 : World) (hw1 : w.alloc (.cells (cellsI N (nmOf ss i) i (prOf zs i) (none, none)) 39) = w1) :
    Calls Yba.prog 11 #[.pointer (pa N T.root), .pointer (some ⟨N + i, 0, none⟩)] w1 fun e w' => ∃ T' lk', e = .returned (.pointer (pa N T'.root)) ∧ St w' N (i + 1) ss zs T' lk' ∧ w'.heap.size = N + (i + 1) ∧ Below N w w' := by
  subst hw1
  have hI : Items (w.alloc (.cells (cellsI N (nmOf ss i) i (prOf zs i) (none, none)) 39)) N (i + 1) (nmOf ss) (prOf zs) (upd lk i (none, none)) := fun j hj => by
    by_cases e : j = i
    · subst e
      rw [upd_same, ← hs]
      exact heap_alloc_new _ _
    · rw [upd_other _ _ _ _ e, Below.heap_alloc _ _ _ (by omega)]
      exact h.items j (by omega)
  have hlt := h.lt
  have hi : i ∉ T.list := fun hm => by have := hlt i hm; omega
  refine (ins_any N (i + 1) (nmOf ss) (prOf zs) i (Nat.lt_succ_self i) T _ _ hI (Tr.in_congr h.inn fun j hj => upd_other _ _ _ _ fun e => hi (e ▸ hj)) h.nodup (fun j hj => Nat.lt_succ_of_lt (hlt j hj)) hi (upd_same _ _ _)).mono ?_
  rintro e w' ⟨lk', rfl, a2, a3, a4, a5, a6⟩
  refine ⟨_, lk', rfl, ⟨a2, a3, ?_, Tr.heap_ins _ _ _ _ h.heap h.nodup hi, Tr.sorted_ins _ (fun a b => ss.getD a [] ≤ ss.getD b []) _ _ (fun a b hab => ?_) (fun a b hab => ?_) (fun a b c h1 h2 => List.le_trans h1 h2) _ h.sorted⟩, ?_, ?_⟩
  · rw [List.range_succ]
    exact (Tr.ins_perm _ _ _ _).trans ((h.perm.cons i).trans (List.perm_append_singleton i _).symm)
  · rw [bytesLess_eq, decide_eq_true_eq, nmOf_toList, nmOf_toList] at hab
    exact List.le_of_lt hab
  · rw [bytesLess_eq, decide_eq_false_iff_not, nmOf_toList, nmOf_toList] at hab
    exact hab
  · rw [a6]; simp; omega
  · exact ((Below.refl N w).alloc (by omega) _).trans a5

/-- The names in order are the names sorted. -/
theorem St.names {w : World} {N : Nat} {ss : List (List UInt8)} {zs : List Int} {T : Tr} {lk : Nat → Option Nat × Option Nat} (h : St w N ss.length ss zs T lk) : (ss.mergeSort fun x y => decide (x ≤ y)) = T.list.map fun i => ss.getD i [] := by
  have h1 : (T.list.map fun i => ss.getD i []).Perm ss := by
    have e : (List.range ss.length).map (fun i => ss.getD i []) = ss := by
      apply List.ext_getElem
      · simp
      · intro j h1 h2; simp [List.getD, h2]
    exact (h.perm.map _).trans (by rw [e])
  have h2 : (T.list.map fun i => ss.getD i []).mergeSort leB = T.list.map fun i => ss.getD i [] := by
    apply List.mergeSort_of_pairwise
    rw [List.pairwise_map]
    exact h.sorted.imp fun hab => decide_eq_true hab
  have h3 := mergeSort_of_perm h1
  rw [h2] at h3
  exact h3.symm
end Go.Proofs.Ybulkbjns
