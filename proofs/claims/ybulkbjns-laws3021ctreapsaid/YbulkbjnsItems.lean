/-
  THE ITEMS IN MEMORY; insertItem (11) WALKED.
-/
import Derived.Test.YbulkbjnsRows
import Derived.Test.YbulkbjnsTree
import Derived.WalkKit
import Derived.ProofKit
import Derived.Below
import Derived.Deep.QuietTactic
import Derived.Deep.Draws
namespace Go.Proofs.Ybulkbjns
open Go.RowKit

/-- Where item i lies: item i is the block N + i. -/
def pa (N : Nat) : Option Nat → Option Addr
  | none => none
  | some i => some ⟨N + i, 0, none⟩
theorem pa_none (N : Nat) : pa N none = none := rfl
theorem pa_some (N i : Nat) : pa N (some i) = some ⟨N + i, 0, none⟩ := rfl

def cellsI (N : Nat) (s : ByteArray) (i : Nat) (p : Int) (q : Option Nat × Option Nat) : Array Value :=
  #[.string s, .bool false, .string ⟨#[]⟩, .map none, .slice none 0 0, .bool false, .int .i64 i, .slice none 0 0, .pointer none, .int .i64 0, .int .i64 0, .int .i64 0, .int .i64 0, .bool false, .int .i64 0, .pointer (pa N q.1), .pointer (pa N q.2), .int .u64 p]

/-- k items, each with its name, its number, its priority and its links. -/
def Items (w : World) (N k : Nat) (nm : Nat → ByteArray) (pr : Nat → Int) (lk : Nat → Option Nat × Option Nat) : Prop :=
  ∀ i, i < k → w.heap[N + i]? = some (.cells (cellsI N (nm i) i (pr i) (lk i)) 39)

def upd (lk : Nat → Option Nat × Option Nat) (i : Nat) (q : Option Nat × Option Nat) : Nat → Option Nat × Option Nat := fun j => if j = i then q else lk j
theorem upd_same (lk : Nat → Option Nat × Option Nat) (i : Nat) (q : Option Nat × Option Nat) : upd lk i q i = q := if_pos rfl
theorem upd_other (lk : Nat → Option Nat × Option Nat) (i : Nat) (q : Option Nat × Option Nat) (j : Nat) (h : j ≠ i) : upd lk i q j = lk j := if_neg h

theorem setCell_block (w : World) (b o : Nat) (cs : Array Value) (t : TypeId) (v : Value) (h : w.heap[b]? = some (.cells cs t)) : (w.setCell ⟨b, o, none⟩ v).heap[b]? = some (.cells (cs.setIfInBounds o v) t) := by
  simp [World.setCell, Array.getElem?_modify, h]

variable {N n : Nat} {nm : Nat → ByteArray} {pr : Nat → Int} {lk : Nat → Option Nat × Option Nat} {w : World}

theorem Items.setLeft (h : Items w N n nm pr lk) (i : Nat) (x : Option Nat) : Items (w.setCell ⟨N + i, 15, none⟩ (.pointer (pa N x))) N n nm pr (upd lk i (x, (lk i).2)) := fun j hj => by
  by_cases e : j = i
  · subst e
    rw [upd_same, setCell_block _ _ _ _ _ _ (h j hj)]
    rfl
  · rw [upd_other _ _ _ _ e, Below.heap_setCell _ _ _ _ (by simp; omega)]
    exact h j hj
theorem Items.setRight (h : Items w N n nm pr lk) (i : Nat) (x : Option Nat) : Items (w.setCell ⟨N + i, 16, none⟩ (.pointer (pa N x))) N n nm pr (upd lk i ((lk i).1, x)) := fun j hj => by
  by_cases e : j = i
  · subst e
    rw [upd_same, setCell_block _ _ _ _ _ _ (h j hj)]
    rfl
  · rw [upd_other _ _ _ _ e, Below.heap_setCell _ _ _ _ (by simp; omega)]
    exact h j hj

/-- An item's cells. -/
structure Cell (w : World) (N i : Nat) (s : ByteArray) (p : Int) (q : Option Nat × Option Nat) : Prop where
  name : w.cell? ⟨N + i, 0, none⟩ = some (.string s)
  owner : w.cell? ⟨N + i, 6, none⟩ = some (.int .i64 i)
  left : w.cell? ⟨N + i, 15, none⟩ = some (.pointer (pa N q.1))
  right : w.cell? ⟨N + i, 16, none⟩ = some (.pointer (pa N q.2))
  prio : w.cell? ⟨N + i, 17, none⟩ = some (.int .u64 p)
  fl : w.frozen? ⟨N + i, 15, none⟩ = false
  fr : w.frozen? ⟨N + i, 16, none⟩ = false

theorem frozen_of_row (w : World) (g j : Nat) (cs : Array Value) (t : TypeId) (hg : w.heap[g]? = some (.cells cs t)) : w.frozen? ⟨g, j, none⟩ = false := by
  simp [World.frozen?, hg]

theorem Items.cell (h : Items w N n nm pr lk) {i : Nat} (hi : i < n) : Cell w N i (nm i) (pr i) (lk i) :=
  ⟨cell_of_row _ _ _ _ _ _ (h i hi), cell_of_row _ _ _ _ _ _ (h i hi), cell_of_row _ _ _ _ _ _ (h i hi), cell_of_row _ _ _ _ _ _ (h i hi), cell_of_row _ _ _ _ _ _ (h i hi), frozen_of_row _ _ _ _ _ (h i hi), frozen_of_row _ _ _ _ _ (h i hi)⟩

theorem items_drewN (h : Items w N n nm pr lk) (q : Nat) : Items (w.drewN q) N n nm pr lk := fun i hi => by
  rw [show (w.drewN q).heap = w.heap from (World.drewN_alike w q).1]; exact h i hi
theorem below_drewN (B : Nat) (w : World) (q : Nat) : Below B w (w.drewN q) := by
  induction q with
  | zero => exact Below.refl _ _
  | succ q ih => exact ih.drew

/-- THE LINKS BEHIND A TURN. -/
theorem turnR (lk lk1 : Nat → Option Nat × Option Nat) (i u k : Nat) (l r ul ur : Tr) (hui : u ≠ i) (ki : i ≠ k)
    (hM : ∀ j, j ∈ (Tr.node u ul ur).list ↔ j = k ∨ j ∈ r.list)
    (hN : ul.list.Nodup ∧ ur.list.Nodup ∧ u ∉ ul.list ∧ u ∉ ur.list ∧ ∀ j, j ∈ ul.list → j ∉ ur.list)
    (hL : l.In lk ∧ lk i = (l.root, r.root) ∧ i ∉ l.list ∧ i ∉ r.list ∧ k ∉ l.list ∧ i ∉ ul.list ∧ i ∉ ur.list ∧ u ∉ l.list ∧ ∀ j, j ∈ l.list → j ∉ r.list)
    (hU : (Tr.node u ul ur).In lk1) (hF : ∀ j, j ∉ r.list → j ≠ k → lk1 j = lk j) (lkA lkC : Nat → Option Nat × Option Nat)
    (hA : lkA = upd lk1 i ((lk1 i).1, some u)) (hC : lkC = upd (upd lkA i ((lkA i).1, ul.root)) u (some i, (upd lkA i ((lkA i).1, ul.root) u).2)) :
    (Tr.node u (Tr.node i l ul) ur).In lkC ∧ (∀ j, j ∉ (Tr.node i l r).list → j ≠ k → lkC j = lk j) ∧ (Tr.node i l (Tr.node u ul ur)).In lkA ∧ (∀ j, j ∉ (Tr.node i l r).list → j ≠ k → lkA j = lk j) := by
  obtain ⟨l1, l2, l3, l4, l5, l6, l7, l8, l9⟩ := hL
  obtain ⟨m1, m2, m3, m4, m5⟩ := hN
  obtain ⟨u1, u2, u3⟩ := hU
  have hA1 : ∀ j, j ≠ i → lkA j = lk1 j := fun j hj => by rw [hA, upd_other _ _ _ _ hj]
  have hAi : lkA i = (l.root, some u) := by rw [hA, upd_same, hF i l4 ki, l2]
  have hC1 : ∀ j, j ≠ i → j ≠ u → lkC j = lk1 j := fun j hj hju => by rw [hC, upd_other _ _ _ _ hju, upd_other _ _ _ _ hj, hA1 j hj]
  have hCi : lkC i = (l.root, ul.root) := by rw [hC, upd_other _ _ _ _ (Ne.symm hui), upd_same, hAi]
  have hCu : lkC u = (some i, ur.root) := by rw [hC, upd_same, upd_other _ _ _ _ hui, hA1 u hui, u1]
  have hkl : ∀ j, j ∈ l.list → j ≠ k := fun j hj e => l5 (e ▸ hj)
  have hil : ∀ j, j ∈ l.list → j ≠ i := fun j hj e => l3 (e ▸ hj)
  have hul : ∀ j, j ∈ l.list → j ≠ u := fun j hj e => l8 (e ▸ hj)
  refine ⟨⟨hCu, ⟨hCi, Tr.in_congr l1 fun j hj => ?_, Tr.in_congr u2 fun j hj => ?_⟩, Tr.in_congr u3 fun j hj => ?_⟩, fun j hj hk => ?_, ⟨hAi, Tr.in_congr l1 fun j hj => ?_, (hA1 u hui).trans u1, Tr.in_congr u2 fun j hj => ?_, Tr.in_congr u3 fun j hj => ?_⟩, fun j hj hk => ?_⟩
  · rw [hC1 j (hil j hj) (hul j hj), hF j (l9 j hj) (hkl j hj)]
  · exact hC1 j (fun e => l6 (e ▸ hj)) (fun e => m3 (e ▸ hj))
  · exact hC1 j (fun e => l7 (e ▸ hj)) (fun e => m4 (e ▸ hj))
  · have h1 : j ≠ i := fun e => hj (by simp [Tr.list, e])
    have h2 : j ∉ r.list := fun e => hj (by simp [Tr.list, e])
    have h3 : j ≠ u := fun e => by
      rcases (hM u).1 (by simp [Tr.list]) with h | h
      · exact hk (e.trans h)
      · exact h2 (e ▸ h)
    rw [hC1 j h1 h3, hF j h2 hk]
  · rw [hA1 j (hil j hj), hF j (l9 j hj) (hkl j hj)]
  · exact hA1 j (fun e => l6 (e ▸ hj))
  · exact hA1 j (fun e => l7 (e ▸ hj))
  · have h1 : j ≠ i := fun e => hj (by simp [Tr.list, e])
    have h2 : j ∉ r.list := fun e => hj (by simp [Tr.list, e])
    rw [hA1 j h1, hF j h2 hk]

theorem turnL (lk lk1 : Nat → Option Nat × Option Nat) (i u k : Nat) (l r ul ur : Tr) (hui : u ≠ i) (ki : i ≠ k)
    (hM : ∀ j, j ∈ (Tr.node u ul ur).list ↔ j = k ∨ j ∈ l.list)
    (hN : ul.list.Nodup ∧ ur.list.Nodup ∧ u ∉ ul.list ∧ u ∉ ur.list ∧ ∀ j, j ∈ ul.list → j ∉ ur.list)
    (hL : r.In lk ∧ lk i = (l.root, r.root) ∧ i ∉ r.list ∧ i ∉ l.list ∧ k ∉ r.list ∧ i ∉ ul.list ∧ i ∉ ur.list ∧ u ∉ r.list ∧ ∀ j, j ∈ l.list → j ∉ r.list)
    (hU : (Tr.node u ul ur).In lk1) (hF : ∀ j, j ∉ l.list → j ≠ k → lk1 j = lk j) (lkA lkC : Nat → Option Nat × Option Nat)
    (hA : lkA = upd lk1 i (some u, (lk1 i).2)) (hC : lkC = upd (upd lkA i (ur.root, (lkA i).2)) u ((upd lkA i (ur.root, (lkA i).2) u).1, some i)) :
    (Tr.node u ul (Tr.node i ur r)).In lkC ∧ (∀ j, j ∉ (Tr.node i l r).list → j ≠ k → lkC j = lk j) ∧ (Tr.node i (Tr.node u ul ur) r).In lkA ∧ (∀ j, j ∉ (Tr.node i l r).list → j ≠ k → lkA j = lk j) := by
  obtain ⟨l1, l2, l3, l4, l5, l6, l7, l8, l9⟩ := hL
  obtain ⟨m1, m2, m3, m4, m5⟩ := hN
  obtain ⟨u1, u2, u3⟩ := hU
  have hA1 : ∀ j, j ≠ i → lkA j = lk1 j := fun j hj => by rw [hA, upd_other _ _ _ _ hj]
  have hAi : lkA i = (some u, r.root) := by rw [hA, upd_same, hF i l4 ki, l2]
  have hC1 : ∀ j, j ≠ i → j ≠ u → lkC j = lk1 j := fun j hj hju => by rw [hC, upd_other _ _ _ _ hju, upd_other _ _ _ _ hj, hA1 j hj]
  have hCi : lkC i = (ur.root, r.root) := by rw [hC, upd_other _ _ _ _ (Ne.symm hui), upd_same, hAi]
  have hCu : lkC u = (ul.root, some i) := by rw [hC, upd_same, upd_other _ _ _ _ hui, hA1 u hui, u1]
  have hkl : ∀ j, j ∈ r.list → j ≠ k := fun j hj e => l5 (e ▸ hj)
  have hil : ∀ j, j ∈ r.list → j ≠ i := fun j hj e => l3 (e ▸ hj)
  have hul : ∀ j, j ∈ r.list → j ≠ u := fun j hj e => l8 (e ▸ hj)
  have hrl : ∀ j, j ∈ r.list → j ∉ l.list := fun j hj hl => l9 j hl hj
  refine ⟨⟨hCu, Tr.in_congr u2 fun j hj => ?_, ⟨hCi, Tr.in_congr u3 fun j hj => ?_, Tr.in_congr l1 fun j hj => ?_⟩⟩, fun j hj hk => ?_, ⟨hAi, ⟨(hA1 u hui).trans u1, Tr.in_congr u2 fun j hj => ?_, Tr.in_congr u3 fun j hj => ?_⟩, Tr.in_congr l1 fun j hj => ?_⟩, fun j hj hk => ?_⟩
  · exact hC1 j (fun e => l6 (e ▸ hj)) (fun e => m3 (e ▸ hj))
  · exact hC1 j (fun e => l7 (e ▸ hj)) (fun e => m4 (e ▸ hj))
  · rw [hC1 j (hil j hj) (hul j hj), hF j (hrl j hj) (hkl j hj)]
  · have h1 : j ≠ i := fun e => hj (by simp [Tr.list, e])
    have h2 : j ∉ l.list := fun e => hj (by simp [Tr.list, e])
    have h3 : j ≠ u := fun e => by
      rcases (hM u).1 (by simp [Tr.list]) with h | h
      · exact hk (e.trans h)
      · exact h2 (e ▸ h)
    rw [hC1 j h1 h3, hF j h2 hk]
  · exact hA1 j (fun e => l6 (e ▸ hj))
  · exact hA1 j (fun e => l7 (e ▸ hj))
  · rw [hA1 j (hil j hj), hF j (hrl j hj) (hkl j hj)]
  · have h1 : j ≠ i := fun e => hj (by simp [Tr.list, e])
    have h2 : j ∉ l.list := fun e => hj (by simp [Tr.list, e])
    rw [hA1 j h1, hF j h2 hk]

set_option maxRecDepth 100000 in
set_option maxHeartbeats 4000000 in
theorem ins_any (N n : Nat) (nm : Nat → ByteArray) (pr : Nat → Int) (k : Nat) (hk : k < n) (T : Tr) : ∀ (w : World) (lk : Nat → Option Nat × Option Nat), Items w N n nm pr lk → T.In lk → T.list.Nodup → (∀ j ∈ T.list, j < n) → k ∉ T.list → lk k = (none, none) →
    Calls Yba.prog 11 #[.pointer (pa N T.root), .pointer (some ⟨N + k, 0, none⟩)] w fun e w' => ∃ lk', e = .returned (.pointer (pa N (Tr.ins (fun a b => Op.bytesLess (nm a).toList (nm b).toList) pr k T).root)) ∧ Items w' N n nm pr lk' ∧ (Tr.ins (fun a b => Op.bytesLess (nm a).toList (nm b).toList) pr k T).In lk' ∧ (∀ j, j ∉ T.list → j ≠ k → lk' j = lk j) ∧ Below N w w' ∧ w'.heap.size = w.heap.size := by
  induction T with
  | nil =>
    intro w lk hI _ _ _ _ hkk
    rw [show pa N Tr.nil.root = none from rfl]
    go_enter Yba.func11, Yba.ntmps11
    go_wp2_with (fail)
    go_ret
    exact ⟨lk, rfl, hI, ⟨hkk, trivial, trivial⟩, fun _ _ _ => rfl, Below.refl _ _, rfl⟩
  | node i l r ihl ihr =>
    intro w lk hI hT hn hlt hkT hkk
    rw [show pa N (Tr.node i l r).root = some ⟨N + i, 0, none⟩ from rfl]
    obtain ⟨n1, n2, n3, n4, n5⟩ := Tr.nodup_node hn
    have kl : k ∉ l.list := fun h => hkT (by simp [Tr.list, h])
    have kr : k ∉ r.list := fun h => hkT (by simp [Tr.list, h])
    have ki : i ≠ k := fun h => hkT (by simp [Tr.list, h])
    have hin : i < n := hlt i (by simp [Tr.list])
    have CI := hI.cell hin
    have CK := hI.cell hk
    rw [hT.1] at CI
    have c1 := CI.name
    have c2 := CK.name
    have hTi := hT.1
    have hTl := hT.2.1
    have hTr := hT.2.2
    have hln : ∀ j ∈ l.list, j < n := fun j hj => hlt j (by simp [Tr.list, hj])
    have hrn : ∀ j ∈ r.list, j < n := fun j hj => hlt j (by simp [Tr.list, hj])
    clear hT hlt hn
    cases hb : Op.bytesLess (nm k).toList (nm i).toList
    · clear ihl
      have c3 := CI.right
      have IHR : ∀ q, Hid (Calls Yba.prog 11 #[.pointer (pa N r.root), .pointer (some ⟨N + k, 0, none⟩)] (w.drewN q) fun e w' => ∃ lk', e = .returned (.pointer (pa N (Tr.ins (fun a b => Op.bytesLess (nm a).toList (nm b).toList) pr k r).root)) ∧ Items w' N n nm pr lk' ∧ (Tr.ins (fun a b => Op.bytesLess (nm a).toList (nm b).toList) pr k r).In lk' ∧ (∀ j, j ∉ r.list → j ≠ k → lk' j = lk j) ∧ Below N w w' ∧ w'.heap.size = w.heap.size) := fun q =>
        (ihr (w.drewN q) lk (items_drewN hI q) hTr n2 hrn kr hkk).mono (by
          rintro e w' ⟨lk', a1, a2, a3, a4, a5, a6⟩
          exact ⟨lk', a1, a2, a3, a4, (below_drewN N w q).trans a5, a6⟩)
      clear ihr
      obtain ⟨u, ul, ur, hU⟩ := Tr.ins_node (fun a b => Op.bytesLess (nm a).toList (nm b).toList) pr k r
      have hmem : ∀ j, j ∈ (Tr.node u ul ur).list ↔ j = k ∨ j ∈ r.list := fun j => by rw [← hU]; exact Tr.mem_ins
      have hnd : (Tr.node u ul ur).list.Nodup := by rw [← hU]; exact Tr.nodup_ins n2 kr
      rw [hU] at IHR
      rw [show Tr.ins (fun a b => Op.bytesLess (nm a).toList (nm b).toList) pr k (Tr.node i l r) = Tr.rotR pr i l (Tr.node u ul ur) by rw [Tr.ins]; simp only [hb, cond_false, hU]]
      clear hU
      have hui : u ≠ i := fun e => by
        rcases (hmem u).1 (by simp [Tr.list]) with h | h
        · exact ki (e.symm.trans h)
        · exact n4 (e ▸ h)
      have hun : u < n := by
        rcases (hmem u).1 (by simp [Tr.list]) with h | h
        · omega
        · exact hrn u h
      obtain ⟨m1, m2, m3, m4, m5⟩ := Tr.nodup_node hnd
      have mi1 : i ∉ ul.list := fun h => by
        rcases (hmem i).1 (by simp [Tr.list, h]) with h | h
        · exact ki h
        · exact n4 h
      have mi2 : i ∉ ur.list := fun h => by
        rcases (hmem i).1 (by simp [Tr.list, h]) with h | h
        · exact ki h
        · exact n4 h
      have mu : u ∉ l.list := fun h => by
        rcases (hmem u).1 (by simp [Tr.list]) with e | e
        · exact kl (e ▸ h)
        · exact n5 u h e
      have HM : Hid (∀ j, j ∈ (Tr.node u ul ur).list ↔ j = k ∨ j ∈ r.list) := hmem
      have HN : Hid (ul.list.Nodup ∧ ur.list.Nodup ∧ u ∉ ul.list ∧ u ∉ ur.list ∧ ∀ j, j ∈ ul.list → j ∉ ur.list) := ⟨m1, m2, m3, m4, m5⟩
      have HL : Hid (l.In lk ∧ lk i = (l.root, r.root) ∧ i ∉ l.list ∧ i ∉ r.list ∧ k ∉ l.list ∧ i ∉ ul.list ∧ i ∉ ur.list ∧ u ∉ l.list ∧ ∀ j, j ∈ l.list → j ∉ r.list) := ⟨hTl, hTi, n3, n4, kl, mi1, mi2, mu, n5⟩
      clear hmem hnd m1 m2 m3 m4 m5 hTl hTr hTi n1 n2 n3 n4 n5 kl kr mi1 mi2 mu hln hrn hkk hkT hI CI CK
      go_enter Yba.func11, Yba.ntmps11
      go_wp2_with (fail)
      go_quiet (fail)
      go_wp2_with (fail)
      refine (IHR _).out.mono ?_
      rintro e w1 ⟨lk1, rfl, hI1, hU1, hF1, B1, hs1⟩
      rw [show (Tr.node u ul ur).root = some u from rfl, pa_some]
      have hlk1i : lk1 i = (l.root, r.root) := by rw [hF1 i HL.out.2.2.2.1 ki]; exact HL.out.2.1
      have hlk1u : lk1 u = (ul.root, ur.root) := hU1.1
      have I2 := hI1.setRight i (some u)
      rw [pa_some] at I2
      have CI1 := hI1.cell hin
      have c4 := CI1.fr
      have c5 : w1.cell? ⟨N + i, 16, none⟩ = some (.pointer (pa N r.root)) := by rw [CI1.right, hlk1i]
      generalize hW2 : w1.setCell ⟨N + i, 16, none⟩ (.pointer (some ⟨N + u, 0, none⟩)) = w2 at I2
      have B2 : Below N w w2 := by rw [← hW2]; exact B1.setCell (by simp) _
      have hs2 : w2.heap.size = w.heap.size := by rw [← hW2, ← hs1]; simp [World.setCell]
      have CI2 := I2.cell hin
      have CU2 := I2.cell hun
      rw [upd_same] at CI2
      rw [upd_other _ _ _ _ hui, hlk1u] at CU2
      have d1 := CI2.right
      rw [pa_some] at d1
      have d2 := CI2.prio
      have d3 := CU2.prio
      have d4 := CU2.left
      have d5 := CU2.fl
      have d6 := CI2.fr
      have HI2 : Hid (Items w2 N n nm pr (upd lk1 i ((lk1 i).1, some u))) := I2
      have HU1 : Hid ((Tr.node u ul ur).In lk1) := hU1
      have HF1 : Hid (∀ j, j ∉ r.list → j ≠ k → lk1 j = lk j) := hF1
      have HE1 : Hid (lk1 i = (l.root, r.root)) := hlk1i
      have HB2 : Hid (Below N w w2 ∧ w2.heap.size = w.heap.size) := ⟨B2, hs2⟩
      clear I2 CI2 CU2 CI1 hI1 hU1 hF1 hlk1i hlk1u B1 B2 hs1 hs2
      by_cases hp : pr i < pr u
      · have HP : Hid (Tr.rotR pr i l (Tr.node u ul ur) = Tr.node u (Tr.node i l ul) ur) := by rw [Hid, Tr.rotR, if_pos hp]
        have hiu : i ≠ u := fun e => hui e.symm
        go_wp2_with (fail)
        go_quiet (fail)
        go_wp2_with (fail)
        go_ret
        rw [HP.out]
        obtain ⟨t1, t2, -, -⟩ := turnR lk lk1 i u k l r ul ur hui ki HM.out HN.out HL.out HU1.out HF1.out _ _ rfl rfl
        have I3 := ((items_drewN HI2.out nq).setRight i ul.root).setLeft u (some i)
        rw [pa_some] at I3
        exact ⟨_, rfl, I3, t1, t2, ((HB2.out.1.trans (below_drewN N w2 nq)).setCell (by simp) _).setCell (by simp) _, by simp only [World.setCell, Array.size_modify]; exact HB2.out.2⟩
      · have HP : Hid (Tr.rotR pr i l (Tr.node u ul ur) = Tr.node i l (Tr.node u ul ur)) := by rw [Hid, Tr.rotR, if_neg hp]
        go_wp2_with (fail)
        go_quiet (fail)
        go_wp2_with (fail)
        go_ret
        rw [HP.out]
        obtain ⟨-, -, t3, t4⟩ := turnR lk lk1 i u k l r ul ur hui ki HM.out HN.out HL.out HU1.out HF1.out _ _ rfl rfl
        exact ⟨_, rfl, items_drewN HI2.out nq, t3, t4, HB2.out.1.trans (below_drewN N w2 nq), HB2.out.2⟩
    · clear ihr
      have c3 := CI.left
      have IHL : ∀ q, Hid (Calls Yba.prog 11 #[.pointer (pa N l.root), .pointer (some ⟨N + k, 0, none⟩)] (w.drewN q) fun e w' => ∃ lk', e = .returned (.pointer (pa N (Tr.ins (fun a b => Op.bytesLess (nm a).toList (nm b).toList) pr k l).root)) ∧ Items w' N n nm pr lk' ∧ (Tr.ins (fun a b => Op.bytesLess (nm a).toList (nm b).toList) pr k l).In lk' ∧ (∀ j, j ∉ l.list → j ≠ k → lk' j = lk j) ∧ Below N w w' ∧ w'.heap.size = w.heap.size) := fun q =>
        (ihl (w.drewN q) lk (items_drewN hI q) hTl n1 hln kl hkk).mono (by
          rintro e w' ⟨lk', a1, a2, a3, a4, a5, a6⟩
          exact ⟨lk', a1, a2, a3, a4, (below_drewN N w q).trans a5, a6⟩)
      clear ihl
      obtain ⟨u, ul, ur, hU⟩ := Tr.ins_node (fun a b => Op.bytesLess (nm a).toList (nm b).toList) pr k l
      have hmem : ∀ j, j ∈ (Tr.node u ul ur).list ↔ j = k ∨ j ∈ l.list := fun j => by rw [← hU]; exact Tr.mem_ins
      have hnd : (Tr.node u ul ur).list.Nodup := by rw [← hU]; exact Tr.nodup_ins n1 kl
      rw [hU] at IHL
      rw [show Tr.ins (fun a b => Op.bytesLess (nm a).toList (nm b).toList) pr k (Tr.node i l r) = Tr.rotL pr i r (Tr.node u ul ur) by rw [Tr.ins]; simp only [hb, cond_true, hU]]
      clear hU
      have hui : u ≠ i := fun e => by
        rcases (hmem u).1 (by simp [Tr.list]) with h | h
        · exact ki (e.symm.trans h)
        · exact n3 (e ▸ h)
      have hun : u < n := by
        rcases (hmem u).1 (by simp [Tr.list]) with h | h
        · omega
        · exact hln u h
      obtain ⟨m1, m2, m3, m4, m5⟩ := Tr.nodup_node hnd
      have mi1 : i ∉ ul.list := fun h => by
        rcases (hmem i).1 (by simp [Tr.list, h]) with h | h
        · exact ki h
        · exact n3 h
      have mi2 : i ∉ ur.list := fun h => by
        rcases (hmem i).1 (by simp [Tr.list, h]) with h | h
        · exact ki h
        · exact n3 h
      have mu : u ∉ r.list := fun h => by
        rcases (hmem u).1 (by simp [Tr.list]) with e | e
        · exact kr (e ▸ h)
        · exact n5 u e h
      have HM : Hid (∀ j, j ∈ (Tr.node u ul ur).list ↔ j = k ∨ j ∈ l.list) := hmem
      have HN : Hid (ul.list.Nodup ∧ ur.list.Nodup ∧ u ∉ ul.list ∧ u ∉ ur.list ∧ ∀ j, j ∈ ul.list → j ∉ ur.list) := ⟨m1, m2, m3, m4, m5⟩
      have HL : Hid (r.In lk ∧ lk i = (l.root, r.root) ∧ i ∉ r.list ∧ i ∉ l.list ∧ k ∉ r.list ∧ i ∉ ul.list ∧ i ∉ ur.list ∧ u ∉ r.list ∧ ∀ j, j ∈ l.list → j ∉ r.list) := ⟨hTr, hTi, n4, n3, kr, mi1, mi2, mu, n5⟩
      clear hmem hnd m1 m2 m3 m4 m5 hTl hTr hTi n1 n2 n3 n4 n5 kl kr mi1 mi2 mu hln hrn hkk hkT hI CI CK
      go_enter Yba.func11, Yba.ntmps11
      go_wp2_with (fail)
      go_quiet (fail)
      go_wp2_with (fail)
      refine (IHL _).out.mono ?_
      rintro e w1 ⟨lk1, rfl, hI1, hU1, hF1, B1, hs1⟩
      rw [show (Tr.node u ul ur).root = some u from rfl, pa_some]
      have hlk1i : lk1 i = (l.root, r.root) := by rw [hF1 i HL.out.2.2.2.1 ki]; exact HL.out.2.1
      have hlk1u : lk1 u = (ul.root, ur.root) := hU1.1
      have I2 := hI1.setLeft i (some u)
      rw [pa_some] at I2
      have CI1 := hI1.cell hin
      have c4 := CI1.fl
      have c5 : w1.cell? ⟨N + i, 15, none⟩ = some (.pointer (pa N l.root)) := by rw [CI1.left, hlk1i]
      generalize hW2 : w1.setCell ⟨N + i, 15, none⟩ (.pointer (some ⟨N + u, 0, none⟩)) = w2 at I2
      have B2 : Below N w w2 := by rw [← hW2]; exact B1.setCell (by simp) _
      have hs2 : w2.heap.size = w.heap.size := by rw [← hW2, ← hs1]; simp [World.setCell]
      have CI2 := I2.cell hin
      have CU2 := I2.cell hun
      rw [upd_same] at CI2
      rw [upd_other _ _ _ _ hui, hlk1u] at CU2
      have d1 := CI2.left
      rw [pa_some] at d1
      have d2 := CI2.prio
      have d3 := CU2.prio
      have d4 := CU2.right
      have d5 := CU2.fr
      have d6 := CI2.fl
      have HI2 : Hid (Items w2 N n nm pr (upd lk1 i (some u, (lk1 i).2))) := I2
      have HU1 : Hid ((Tr.node u ul ur).In lk1) := hU1
      have HF1 : Hid (∀ j, j ∉ l.list → j ≠ k → lk1 j = lk j) := hF1
      have HE1 : Hid (lk1 i = (l.root, r.root)) := hlk1i
      have HB2 : Hid (Below N w w2 ∧ w2.heap.size = w.heap.size) := ⟨B2, hs2⟩
      clear I2 CI2 CU2 CI1 hI1 hU1 hF1 hlk1i hlk1u B1 B2 hs1 hs2
      by_cases hp : pr i < pr u
      · have HP : Hid (Tr.rotL pr i r (Tr.node u ul ur) = Tr.node u ul (Tr.node i ur r)) := by rw [Hid, Tr.rotL, if_pos hp]
        have hiu : i ≠ u := fun e => hui e.symm
        go_wp2_with (fail)
        go_quiet (fail)
        go_wp2_with (fail)
        go_ret
        rw [HP.out]
        obtain ⟨t1, t2, -, -⟩ := turnL lk lk1 i u k l r ul ur hui ki HM.out HN.out HL.out HU1.out HF1.out _ _ rfl rfl
        have I3 := ((items_drewN HI2.out nq).setLeft i ur.root).setRight u (some i)
        rw [pa_some] at I3
        exact ⟨_, rfl, I3, t1, t2, ((HB2.out.1.trans (below_drewN N w2 nq)).setCell (by simp) _).setCell (by simp) _, by simp only [World.setCell, Array.size_modify]; exact HB2.out.2⟩
      · have HP : Hid (Tr.rotL pr i r (Tr.node u ul ur) = Tr.node i (Tr.node u ul ur) r) := by rw [Hid, Tr.rotL, if_neg hp]
        go_wp2_with (fail)
        go_quiet (fail)
        go_wp2_with (fail)
        go_ret
        rw [HP.out]
        obtain ⟨-, -, t3, t4⟩ := turnL lk lk1 i u k l r ul ur hui ki HM.out HN.out HL.out HU1.out HF1.out _ _ rfl rfl
        exact ⟨_, rfl, items_drewN HI2.out nq, t3, t4, HB2.out.1.trans (below_drewN N w2 nq), HB2.out.2⟩
#print axioms ins_any
end Go.Proofs.Ybulkbjns
