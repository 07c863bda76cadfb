/-
  THE LAW (5) AT NO NAME, AND AT TOO MANY.
-/
import Derived.Test.YbulkbjnsLaw
namespace Go.Proofs.Ybulkbjns
open Go.RowKit Go.Sort

theorem law_long (a : Option Addr) (len cap : Nat) (v : Value) (w : World) (hl : 1024 < len) :
    Calls Yba.prog 5 #[.slice a len cap, v] w fun e w' => e = .returned (.bool true) ∧ Below w.heap.size w w' := by
  have hl' : (1024 : Int) < (len : Int) := by omega
  go_enter Yba.func5, Yba.ntmps5
  go_wp2_with (fail)
  go_ret
  exact ⟨rfl, Below.refl _ _⟩

set_option maxRecDepth 100000 in
set_option maxHeartbeats 4000000 in
theorem law_empty (a : Option Addr) (cap : Nat) (p : Option Addr) (plen pcap : Nat) (w : World) (hnil : a = none → cap = 0) :
    Calls Yba.prog 5 #[.slice a 0 cap, .slice p plen pcap] w fun e w' => e = .returned (.bool true) ∧ Below w.heap.size w w' := by
  have HNIL : Hid (a = none → cap = 0) := hnil
  clear hnil
  go_enter Yba.func5, Yba.ntmps5
  go_wp2_with (fail)
  refine wp_loop_rounds 1 ?_
  rw [rounds_succ]
  go_wp2_with (fail)
  generalize hX : w.alloc (.cells #[.slice none 0 0] 41) = ws
  have x1 : ws.heap[w.heap.size]? = some (.cells #[.slice none 0 0] 41) := by rw [← hX]; exact heap_alloc_new _ _
  have x2 : Below w.heap.size w ws := by rw [← hX]; exact (Below.refl _ _).alloc (Nat.le_refl _) _
  have C1 := seq_any w.heap.size 0 w.heap.size (nmOf []) (prOf []) (fun _ => (none, none)) (Nat.le_refl _) (by omega) .nil ws none 0 0 [] (fun i hi => absurd hi (Nat.not_lt_zero i)) trivial (fun j hj => by cases hj) x1 (World.ownsRow_nil _ _ _ _) (Nat.le_refl _)
  rw [show pa w.heap.size Tr.nil.root = none from rfl, show ((0 : Nat) : Int) = 0 from rfl] at C1
  have HX : Hid (Below w.heap.size w ws) := x2
  clear hX x1 x2
  refine C1.mono ?_
  clear C1
  rintro e w2 ⟨rfl, a2, c2, hb2, ho2, B2⟩
  have s2 : w2.cell? ⟨w.heap.size, 0, none⟩ = some (.slice a2 0 c2) := cell_of_row _ _ _ _ _ _ hb2
  have HB2 : Hid (Below w.heap.size w w2) := HX.out.trans B2
  have C2 := clone_any a 0 cap w2 [] (by omega) rfl (fun h => ⟨rfl, HNIL.out h⟩) (fun u hu => by cases hu) (fun ad had j u hu => by simp at hu)
  clear hb2 ho2 B2 HX
  go_wp2_with (fail)
  refine C2.mono ?_
  clear C2
  rintro e w3 ⟨v, rfl, own3, B3⟩
  have C3 := sort_own w2.heap.size 0 v [] w3 own3 (by omega) B3.size
  obtain ⟨a3, c3, rfl⟩ := own_shape own3
  have HB3 : Hid (Below w.heap.size w w3) := HB2.out.trans (B3.mono HB2.out.size)
  have HZ : Hid (w2.heap.size ≥ w.heap.size) := HB2.out.size
  clear own3 B3 HB2 s2
  go_wp2_with (fail)
  refine C3.mono ?_
  clear C3
  rintro e w4 ⟨rfl, own4, B4⟩
  have HB4 : Hid (Below w.heap.size w w4) := HB3.out.trans (B4.mono HZ.out)
  have hmk := make_seen 0 (by omega)
  rw [show ((0 : Nat) : Int) = 0 from rfl] at hmk
  clear own4 B4 HB3 HZ
  go_wp2_with (fail)
  have HB5 : Hid (Below w.heap.size w (w4.alloc (.cells (madeCells #[.bool false] 0) 4))) := HB4.out.alloc HB4.out.size _
  refine wp_loop_rounds 1 ?_
  rw [rounds_succ]
  go_wp2_with (fail)
  have C5 := heap_any w.heap.size 0 (nmOf []) (prOf []) (fun _ => (none, none)) .nil (w4.alloc (.cells (madeCells #[.bool false] 0) 4)) 0 (fun i hi => absurd hi (Nat.not_lt_zero i)) trivial (fun j hj => by cases hj) trivial (by simp [Tr.height])
  rw [show pa w.heap.size Tr.nil.root = none from rfl, show ((0 : Nat) : Int) = 0 from rfl] at C5
  refine C5.mono ?_
  rintro e w8 ⟨rfl, q, rfl⟩
  go_wp2_with (fail)
  go_ret
  exact ⟨rfl, HB5.out.trans (below_drewN _ _ _)⟩
#print axioms law_empty
end Go.Proofs.Ybulkbjns
