/-
  THE PLAIN TREAP: no Go in sight. An item is known by its number (the order in which it was made).
-/
namespace Go.Proofs.Ybulkbjns

inductive Tr | nil | node (i : Nat) (l r : Tr)
namespace Tr
def root : Tr → Option Nat | nil => none | node i _ _ => some i
def list : Tr → List Nat | nil => [] | node i l r => l.list ++ i :: r.list
/-- The links 'lk' (an item's left, its right) draw the tree. -/
def In (lk : Nat → Option Nat × Option Nat) : Tr → Prop
  | nil => True
  | node i l r => lk i = (l.root, r.root) ∧ l.In lk ∧ r.In lk
/-- No item under another has a greater priority. -/
def Heap (pr : Nat → Int) : Tr → Prop
  | nil => True
  | node i l r => (∀ j ∈ l.list, pr j ≤ pr i) ∧ (∀ j ∈ r.list, pr j ≤ pr i) ∧ l.Heap pr ∧ r.Heap pr
def height : Tr → Nat | nil => 0 | node _ l r => max l.height r.height + 1

def rotL (pr : Nat → Int) (i : Nat) (r : Tr) : Tr → Tr
  | nil => node i nil r
  | node u ul ur => if pr i < pr u then node u ul (node i ur r) else node i (node u ul ur) r
def rotR (pr : Nat → Int) (i : Nat) (l : Tr) : Tr → Tr
  | nil => node i l nil
  | node u ul ur => if pr i < pr u then node u (node i l ul) ur else node i l (node u ul ur)
def ins (lt : Nat → Nat → Bool) (pr : Nat → Int) (k : Nat) : Tr → Tr
  | nil => node k nil nil
  | node i l r => bif lt k i then rotL pr i r (ins lt pr k l) else rotR pr i l (ins lt pr k r)

theorem in_congr {lk lk' : Nat → Option Nat × Option Nat} : ∀ {T : Tr}, T.In lk → (∀ j ∈ T.list, lk' j = lk j) → T.In lk'
  | nil, _, _ => trivial
  | node i l r, ⟨h1, h2, h3⟩, h => ⟨(h i (by simp [list])).trans h1, in_congr h2 fun j hj => h j (by simp [list, hj]), in_congr h3 fun j hj => h j (by simp [list, hj])⟩

theorem rotL_list (pr : Nat → Int) (i : Nat) (r T : Tr) : (rotL pr i r T).list = T.list ++ i :: r.list := by
  cases T with
  | nil => rfl
  | node u ul ur => rw [rotL]; split <;> simp [list]
theorem rotR_list (pr : Nat → Int) (i : Nat) (l T : Tr) : (rotR pr i l T).list = l.list ++ i :: T.list := by
  cases T with
  | nil => rfl
  | node u ul ur => rw [rotR]; split <;> simp [list]

theorem ins_perm (lt : Nat → Nat → Bool) (pr : Nat → Int) (k : Nat) : ∀ T : Tr, (ins lt pr k T).list.Perm (k :: T.list)
  | nil => List.Perm.refl _
  | node i l r => by
    rw [ins]
    cases lt k i
    · rw [cond_false, rotR_list, list]
      refine (List.Perm.append_left _ ((ins_perm lt pr k r).cons i)).trans ?_
      refine (List.Perm.append_left _ (List.Perm.swap k i _)).trans ?_
      exact List.perm_middle
    · rw [cond_true, rotL_list, list]
      exact (ins_perm lt pr k l).append_right _
theorem mem_ins {lt : Nat → Nat → Bool} {pr : Nat → Int} {k : Nat} {T : Tr} {j : Nat} : j ∈ (ins lt pr k T).list ↔ j = k ∨ j ∈ T.list := by
  rw [(ins_perm lt pr k T).mem_iff, List.mem_cons]
theorem nodup_ins {lt : Nat → Nat → Bool} {pr : Nat → Int} {k : Nat} {T : Tr} (h : T.list.Nodup) (hk : k ∉ T.list) : (ins lt pr k T).list.Nodup :=
  (ins_perm lt pr k T).nodup_iff.2 (List.nodup_cons.2 ⟨hk, h⟩)

theorem ins_node (lt : Nat → Nat → Bool) (pr : Nat → Int) (k : Nat) (T : Tr) : ∃ u ul ur, ins lt pr k T = node u ul ur := by
  cases h : ins lt pr k T with
  | nil => have := (ins_perm lt pr k T).length_eq; rw [h] at this; simp [list] at this
  | node u ul ur => exact ⟨u, ul, ur, rfl⟩

theorem nodup_node {i : Nat} {l r : Tr} (h : (node i l r).list.Nodup) : l.list.Nodup ∧ r.list.Nodup ∧ i ∉ l.list ∧ i ∉ r.list ∧ ∀ j, j ∈ l.list → j ∉ r.list := by
  rw [list] at h
  obtain ⟨h1, h2, h3⟩ := List.nodup_append.1 h
  obtain ⟨h4, h5⟩ := List.nodup_cons.1 h2
  exact ⟨h1, h5, fun hi => h3 i hi i (by simp) rfl, h4, fun j hj hr => h3 j hj j (by simp [hr]) rfl⟩

/-- The heap's order is kept. -/
theorem heap_ins (lt : Nat → Nat → Bool) (pr : Nat → Int) (k : Nat) : ∀ T : Tr, T.Heap pr → T.list.Nodup → k ∉ T.list → (ins lt pr k T).Heap pr
  | nil, _, _, _ => by simp [ins, Heap, list]
  | node i l r, ⟨h1, h2, h3, h4⟩, hn, hk => by
    obtain ⟨n1, n2, n3, n4, n5⟩ := nodup_node hn
    have kl : k ∉ l.list := fun h => hk (by simp [list, h])
    have kr : k ∉ r.list := fun h => hk (by simp [list, h])
    rw [ins]
    cases lt k i
    · rw [cond_false]
      have ih := heap_ins lt pr k r h4 n2 kr
      have hm : ∀ j, j ∈ (ins lt pr k r).list ↔ j = k ∨ j ∈ r.list := fun j => mem_ins
      have hd := nodup_ins (lt := lt) (pr := pr) n2 kr
      cases hT : ins lt pr k r with
      | nil => exact ⟨h1, by simp [list], h3, trivial⟩
      | node u ul ur =>
        rw [hT] at ih hm hd
        obtain ⟨i1, i2, i3, i4⟩ := ih
        obtain ⟨d1, d2, d3, d4, d5⟩ := nodup_node hd
        rw [rotR]
        split
        · rename_i hlt
          have hu : u = k := by
            rcases (hm u).1 (by simp [list]) with h | h
            · exact h
            · have := h2 u h; omega
          have hul : ∀ j ∈ ul.list, pr j ≤ pr i := fun j hj => by
            rcases (hm j).1 (by simp [list, hj]) with h | h
            · subst h; subst hu; exact absurd hj d3
            · exact h2 j h
          refine ⟨fun j hj => ?_, i2, ⟨h1, hul, h3, i3⟩, i4⟩
          simp only [list, List.mem_append, List.mem_cons] at hj
          rcases hj with hj | rfl | hj
          · have := h1 j hj; omega
          · omega
          · exact i1 j hj
        · rename_i hlt
          refine ⟨h1, fun j hj => ?_, h3, i1, i2, i3, i4⟩
          rcases (hm j).1 hj with rfl | h
          · simp only [list, List.mem_append, List.mem_cons] at hj
            rcases hj with hj | rfl | hj
            · have := i1 _ hj; omega
            · omega
            · have := i2 _ hj; omega
          · exact h2 j h
    · rw [cond_true]
      have ih := heap_ins lt pr k l h3 n1 kl
      have hm : ∀ j, j ∈ (ins lt pr k l).list ↔ j = k ∨ j ∈ l.list := fun j => mem_ins
      have hd := nodup_ins (lt := lt) (pr := pr) n1 kl
      cases hT : ins lt pr k l with
      | nil => exact ⟨by simp [list], h2, trivial, h4⟩
      | node u ul ur =>
        rw [hT] at ih hm hd
        obtain ⟨i1, i2, i3, i4⟩ := ih
        obtain ⟨d1, d2, d3, d4, d5⟩ := nodup_node hd
        rw [rotL]
        split
        · rename_i hlt
          have hu : u = k := by
            rcases (hm u).1 (by simp [list]) with h | h
            · exact h
            · have := h1 u h; omega
          have hur : ∀ j ∈ ur.list, pr j ≤ pr i := fun j hj => by
            rcases (hm j).1 (by simp [list, hj]) with h | h
            · subst h; subst hu; exact absurd hj d4
            · exact h1 j h
          refine ⟨i1, fun j hj => ?_, i3, ⟨hur, h2, i4, h4⟩⟩
          simp only [list, List.mem_append, List.mem_cons] at hj
          rcases hj with hj | rfl | hj
          · exact i2 j hj
          · omega
          · have := h2 j hj; omega
        · rename_i hlt
          refine ⟨fun j hj => ?_, h2, ⟨i1, i2, i3, i4⟩, h4⟩
          rcases (hm j).1 hj with rfl | h
          · simp only [list, List.mem_append, List.mem_cons] at hj
            rcases hj with hj | rfl | hj
            · have := i1 _ hj; omega
            · omega
            · have := i2 _ hj; omega
          · exact h1 j h

/-- The order of the names is kept. -/
theorem sorted_ins (lt : Nat → Nat → Bool) (le : Nat → Nat → Prop) (pr : Nat → Int) (k : Nat) (hlt : ∀ a b, lt a b = true → le a b) (hge : ∀ a b, lt a b = false → le b a) (htr : ∀ a b c, le a b → le b c → le a c) :
    ∀ T : Tr, T.list.Pairwise le → (ins lt pr k T).list.Pairwise le
  | nil, _ => by simp [ins, list]
  | node i l r, h => by
    rw [list, List.pairwise_append] at h
    obtain ⟨h1, h2, h3⟩ := h
    obtain ⟨h4, h5⟩ := List.pairwise_cons.1 h2
    rw [ins]
    cases hc : lt k i
    · rw [cond_false, rotR_list, List.pairwise_append]
      refine ⟨h1, List.pairwise_cons.2 ⟨fun a ha => ?_, sorted_ins lt le pr k hlt hge htr r h5⟩, fun a ha b hb => ?_⟩
      · rcases mem_ins.1 ha with rfl | h
        · exact hge _ _ hc
        · exact h4 a h
      · rcases List.mem_cons.1 hb with rfl | hb
        · exact h3 a ha _ (by simp)
        · rcases mem_ins.1 hb with rfl | h
          · exact htr _ _ _ (h3 a ha i (by simp)) (hge _ _ hc)
          · exact h3 a ha b (by simp [h])
    · rw [cond_true, rotL_list, List.pairwise_append]
      refine ⟨sorted_ins lt le pr k hlt hge htr l h1, h2, fun a ha b hb => ?_⟩
      rcases mem_ins.1 ha with rfl | h
      · rcases List.mem_cons.1 hb with rfl | hb
        · exact hlt _ _ hc
        · exact htr _ _ _ (hlt _ _ hc) (h4 b hb)
      · exact h3 a h b hb

theorem height_le : ∀ T : Tr, T.height ≤ T.list.length
  | nil => Nat.le_refl _
  | node i l r => by
    have h1 := height_le l
    have h2 := height_le r
    simp only [height, list, List.length_append, List.length_cons]
    omega
end Tr
end Go.Proofs.Ybulkbjns
