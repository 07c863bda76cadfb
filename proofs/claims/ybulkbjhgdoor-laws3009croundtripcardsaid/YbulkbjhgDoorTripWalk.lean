import Derived.Test.YbulkbjhgDoorUntransform
import Derived.Test.YbulkbjhgDoorTrip
import Derived.Test.YbulkbjhgDoorMem
import Derived.Test.YbulkbjhgDoorEq
namespace Go.Proofs.YbulkbjhgDoor
open Go.RowKit Go.Sort Go.Deep

theorem three_blocks (w : World) (A B C : Obj) (W : World) (hW : ((w.alloc A).alloc B).alloc C = W) :
    W.heap[w.heap.size]? = some A ∧ W.heap[w.heap.size + 1]? = some B ∧ W.heap[w.heap.size + 1 + 1]? = some C ∧ W.heap.size = w.heap.size + 3 ∧ Below w.heap.size w W := by
  subst hW
  refine ⟨?_, ?_, ?_, by simp, (((Below.refl _ _).alloc (Nat.le_refl _) _).alloc (by simp) _).alloc (by simp; omega) _⟩
  · show (((w.heap.push A).push B).push C)[w.heap.size]? = _
    simp only [Array.getElem?_push, Array.size_push]
    rw [if_neg (by omega), if_neg (by omega), if_pos trivial]
  · show (((w.heap.push A).push B).push C)[w.heap.size + 1]? = _
    simp only [Array.getElem?_push, Array.size_push]
    rw [if_neg (by omega), if_pos trivial]
  · show (((w.heap.push A).push B).push C)[w.heap.size + 1 + 1]? = _
    simp only [Array.getElem?_push, Array.size_push]
    rw [if_pos trivial]

theorem Env.drewN {w : World} {kb ko kl mb mo : Nat} {K I : Nat → UInt8} {d : Array UInt8} (E : Env w kb ko kl mb mo K I d) (n : Nat) : Env (w.drewN n) kb ko kl mb mo K I d :=
  ⟨E.key, E.box, E.row, E.kbm, E.ibm, E.l1, E.l2, E.n1, E.n2⟩
theorem heap_putRow_other (w : World) (g : Nat) (d : Array UInt8) (n k : Nat) (h : k ≠ g) : ((putRow u8v w g 0 d).drewN n).heap[k]? = w.heap[k]? := by
  simp only [World.heap_drewN, putRow, mapBlock, Array.getElem?_modify]
  rw [if_neg (Ne.symm h)]

/-- The octets of an 8-octet key. -/
def keyOf (k0 k1 k2 k3 k4 k5 k6 k7 : UInt8) (j : Nat) : UInt8 := [k0, k1, k2, k3, k4, k5, k6, k7].getD j 0

set_option maxRecDepth 100000 in
set_option maxHeartbeats 1000000 in
theorem trip_walk (k0 k1 k2 k3 k4 k5 k6 k7 a b : UInt8) (mb mo n mc : Nat) (d : Array UInt8) (I : Nat → UInt8) (w : World) (hn1 : 1 ≤ n) (hn : n ≤ 1024) (hd : d.size = n) (hmb : mb < w.heap.size) (h2 : 2 < w.heap.size)
    (hm : ∀ j, j < n → w.cell? ⟨mb, mo + j, none⟩ = some (.int .u8 d[j]!.toNat))
    (hi : ∀ j, j < 256 → w.cell? ⟨2, j, none⟩ = some (.int .u8 (I j).toNat))
    (hinv : ∀ z, Ec.et I (keyOf k0 k1 k2 k3 k4 k5 k6 k7) 8 (Ec.et I (keyOf k0 k1 k2 k3 k4 k5 k6 k7) 8 z) = z) :
    Calls Ybad.prog 6 #[.agg #[.int .u8 k0.toNat, .int .u8 k1.toNat, .int .u8 k2.toNat, .int .u8 k3.toNat, .int .u8 k4.toNat, .int .u8 k5.toNat, .int .u8 k6.toNat, .int .u8 k7.toNat], .slice (some ⟨mb, mo, none⟩) n mc, .int .u8 a.toNat, .int .u8 b.toNat] w fun e w' =>
      e = .returned (.bool true) ∧ Below w.heap.size w w' := by
  have hn0 : ((n : Int) == 0) = false := by simp; omega
  have hmk := make_zrow n hn
  have HI : Hid (∀ z, Ec.et I (keyOf k0 k1 k2 k3 k4 k5 k6 k7) 8 (Ec.et I (keyOf k0 k1 k2 k3 k4 k5 k6 k7) 8 z) = z) := hinv
  have HD : Hid (d.size = n) := hd
  clear hinv hd
  go_enter Ybad.func6, Ybad.ntmps6
  go_wp2_with (fail)
  generalize hW : ((w.alloc (.cells #[.int .u8 k0.toNat, .int .u8 k1.toNat, .int .u8 k2.toNat, .int .u8 k3.toNat, .int .u8 k4.toNat, .int .u8 k5.toNat, .int .u8 k6.toNat, .int .u8 k7.toNat] 36)).alloc (.cells #[.int .u8 k0.toNat, .int .u8 k1.toNat, .int .u8 k2.toNat, .int .u8 k3.toNat, .int .u8 k4.toNat, .int .u8 k5.toNat, .int .u8 k6.toNat, .int .u8 k7.toNat] 36)).alloc (zrow n) = W
  obtain ⟨b0, b1, b2, bs, bel⟩ := three_blocks w _ _ _ W hW
  clear hW hmk
  have hm1 : ∀ j, j < n → W.cell? ⟨mb, mo + j, none⟩ = some (.int .u8 d[j]!.toNat) := fun j hj => by rw [bel.cell (p := ⟨mb, mo + j, none⟩) hmb]; exact hm j hj
  have hi1 : ∀ j, j < 256 → W.cell? ⟨2, j, none⟩ = some (.int .u8 (I j).toNat) := fun j hj => by rw [bel.cell (p := ⟨2, j, none⟩) h2]; exact hi j hj
  have hcp := copy_zrow W (w.heap.size + 1 + 1) mb mo n mc d HD.out b2 hm1
  rw [hcp]
  have hk1 : ∀ j, j < 8 → W.cell? ⟨w.heap.size + 1, 0 + j, none⟩ = some (.int .u8 (keyOf k0 k1 k2 k3 k4 k5 k6 k7 j).toNat) := fun j hj => by
    rw [cell_of_row _ _ _ _ _ _ b1]
    have hc : j = 0 ∨ j = 1 ∨ j = 2 ∨ j = 3 ∨ j = 4 ∨ j = 5 ∨ j = 6 ∨ j = 7 := by omega
    rcases hc with rfl | rfl | rfl | rfl | rfl | rfl | rfl | rfl <;> rfl
  have HZ := holds_zrow W (w.heap.size + 1 + 1) n b2
  clear hcp
  generalize hK : keyOf k0 k1 k2 k3 k4 k5 k6 k7 = K at hk1
  have HI2 : Hid (∀ z, Ec.et I K 8 (Ec.et I K 8 z) = z) := by rw [← hK]; exact HI.out
  have E0 : Env W (w.heap.size + 1) 0 8 (w.heap.size + 1 + 1) 0 K I (Array.replicate n 0) :=
    ⟨hk1, hi1, HZ, by omega, by omega, by omega, by omega, by simp; omega, by simp; omega⟩
  have E1 := E0.put d (by rw [HD.out]; simp)
  have T := transform_any (w.heap.size + 1) 0 8 8 (w.heap.size + 1 + 1) 0 n K I d a b _ E1
  rw [putRow_putRow _ _ _ _ _ _ (Ec.size_transform _ _ _ _), HD.out] at T
  go_wp2_with (fail)
  refine T.mono ?_
  clear T
  obtain ⟨dT, hdT⟩ : ∃ dT, Ec.transform (Ec.et I K 8) a b d = dT := ⟨_, rfl⟩
  have hsT : dT.size = n := by rw [← hdT, Ec.size_transform, HD.out]
  have hback : Ec.untransform (Ec.et I K 8) a b dT = d := by rw [← hdT]; exact Ec.trip _ HI2.out a b d (by rw [HD.out]; exact hn1)
  rw [hdT]
  rintro _ _ ⟨rfl, m1, rfl⟩
  have E2 := (E0.put dT (by rw [hsT]; simp)).drewN m1
  have U := untransform_any (w.heap.size + 1) 0 8 8 (w.heap.size + 1 + 1) 0 n K I dT a b _ E2
  rw [hback, hsT, W_put W _ _ _ dT d rfl (by rw [HD.out, hsT])] at U
  clear hdT hback
  have b0' : ∀ m, ((putRow u8v W (w.heap.size + 1 + 1) 0 d).drewN m).heap[w.heap.size]? = _ := fun m => (heap_putRow_other W _ d m _ (by omega)).trans b0
  have b1' : ∀ m, ((putRow u8v W (w.heap.size + 1 + 1) 0 d).drewN m).heap[w.heap.size + 1]? = _ := fun m => (heap_putRow_other W _ d m _ (by omega)).trans b1
  have hbel : ∀ m, Below w.heap.size w ((putRow u8v W (w.heap.size + 1 + 1) 0 d).drewN m) := fun m =>
    ⟨bel.os, bel.tape, bel.output, by simp; omega, fun k hk => (heap_putRow_other W _ d m k (by omega)).trans (bel.block k hk)⟩
  have hx2 : ∀ j, j < n → (putRow u8v W (w.heap.size + 1 + 1) 0 d).cell? ⟨w.heap.size + 1 + 1, 0 + j, none⟩ = some (.int .u8 d[j]!.toNat) := fun j hj => (E1.row j (by rw [HD.out]; exact hj)).1
  have hy2 : ∀ j, j < n → (putRow u8v W (w.heap.size + 1 + 1) 0 d).cell? ⟨mb, mo + j, none⟩ = some (.int .u8 d[j]!.toNat) := fun j hj => by rw [cell?_putRow_other _ _ _ _ _ _ (.inl (show mb ≠ w.heap.size + 1 + 1 by omega))]; exact hm1 j hj
  go_wp2_with (fail)
  refine U.mono ?_
  clear U
  rintro _ _ ⟨rfl, m2, rfl⟩
  clear E0 E1 E2 HI2 hk1 hm1 hi1 hK hm hi HZ
  rw [World.drewN_drewN]
  generalize hV : putRow u8v W (w.heap.size + 1 + 1) 0 d = V at *
  clear hV
  go_wp2_with (fail)
  refine (eq_any (w.heap.size + 1 + 1) 0 n mb mo mc n (fun j => d[j]!) _ hn (by exact hx2) (by exact hy2)).mono ?_
  rintro _ _ ⟨rfl, m3, rfl⟩
  rw [World.drewN_drewN]
  have b0m := b0' (m1 + m2 + m3)
  have b1m := b1' (m1 + m2 + m3)
  have B : Hid (Below w.heap.size w (V.drewN (m1 + m2 + m3))) := hbel (m1 + m2 + m3)
  have g00 : V.cell? ⟨w.heap.size, 0, none⟩ = some (.int .u8 k0.toNat) := cell_of_row (V.drewN (m1 + m2 + m3)) _ 0 _ _ _ b0m
  have g10 : V.cell? ⟨w.heap.size + 1, 0, none⟩ = some (.int .u8 k0.toNat) := cell_of_row (V.drewN (m1 + m2 + m3)) _ 0 _ _ _ b1m
  have g01 : V.cell? ⟨w.heap.size, 1, none⟩ = some (.int .u8 k1.toNat) := cell_of_row (V.drewN (m1 + m2 + m3)) _ 1 _ _ _ b0m
  have g11 : V.cell? ⟨w.heap.size + 1, 1, none⟩ = some (.int .u8 k1.toNat) := cell_of_row (V.drewN (m1 + m2 + m3)) _ 1 _ _ _ b1m
  have g02 : V.cell? ⟨w.heap.size, 2, none⟩ = some (.int .u8 k2.toNat) := cell_of_row (V.drewN (m1 + m2 + m3)) _ 2 _ _ _ b0m
  have g12 : V.cell? ⟨w.heap.size + 1, 2, none⟩ = some (.int .u8 k2.toNat) := cell_of_row (V.drewN (m1 + m2 + m3)) _ 2 _ _ _ b1m
  have g03 : V.cell? ⟨w.heap.size, 3, none⟩ = some (.int .u8 k3.toNat) := cell_of_row (V.drewN (m1 + m2 + m3)) _ 3 _ _ _ b0m
  have g13 : V.cell? ⟨w.heap.size + 1, 3, none⟩ = some (.int .u8 k3.toNat) := cell_of_row (V.drewN (m1 + m2 + m3)) _ 3 _ _ _ b1m
  have g04 : V.cell? ⟨w.heap.size, 4, none⟩ = some (.int .u8 k4.toNat) := cell_of_row (V.drewN (m1 + m2 + m3)) _ 4 _ _ _ b0m
  have g14 : V.cell? ⟨w.heap.size + 1, 4, none⟩ = some (.int .u8 k4.toNat) := cell_of_row (V.drewN (m1 + m2 + m3)) _ 4 _ _ _ b1m
  have g05 : V.cell? ⟨w.heap.size, 5, none⟩ = some (.int .u8 k5.toNat) := cell_of_row (V.drewN (m1 + m2 + m3)) _ 5 _ _ _ b0m
  have g15 : V.cell? ⟨w.heap.size + 1, 5, none⟩ = some (.int .u8 k5.toNat) := cell_of_row (V.drewN (m1 + m2 + m3)) _ 5 _ _ _ b1m
  have g06 : V.cell? ⟨w.heap.size, 6, none⟩ = some (.int .u8 k6.toNat) := cell_of_row (V.drewN (m1 + m2 + m3)) _ 6 _ _ _ b0m
  have g16 : V.cell? ⟨w.heap.size + 1, 6, none⟩ = some (.int .u8 k6.toNat) := cell_of_row (V.drewN (m1 + m2 + m3)) _ 6 _ _ _ b1m
  have g07 : V.cell? ⟨w.heap.size, 7, none⟩ = some (.int .u8 k7.toNat) := cell_of_row (V.drewN (m1 + m2 + m3)) _ 7 _ _ _ b0m
  have g17 : V.cell? ⟨w.heap.size + 1, 7, none⟩ = some (.int .u8 k7.toNat) := cell_of_row (V.drewN (m1 + m2 + m3)) _ 7 _ _ _ b1m
  clear b0' b1' hbel hx2 hy2 b0 b1 b2 bs bel b0m b1m
  have heq := fun w => eq_arr8 (k0.toNat : Int) k1.toNat k2.toNat k3.toNat k4.toNat k5.toNat k6.toNat k7.toNat w
  go_wp2_with (fail)
  go_ret
  exact ⟨rfl, B.out⟩
#print axioms trip_walk

/-! ### the short ways: a message of more than 1024 octets, an empty one -/
set_option maxRecDepth 100000 in
theorem trip_long (k0 k1 k2 k3 k4 k5 k6 k7 : Int) (a b : Int) (m : Option Addr) (n mc : Nat) (w : World) (hn : 1024 < (n : Int)) :
    Calls Ybad.prog 6 #[.agg #[.int .u8 k0, .int .u8 k1, .int .u8 k2, .int .u8 k3, .int .u8 k4, .int .u8 k5, .int .u8 k6, .int .u8 k7], .slice m n mc, .int .u8 a, .int .u8 b] w fun e w' =>
      e = .returned (.bool true) ∧ Below w.heap.size w w' := by
  go_enter Ybad.func6, Ybad.ntmps6
  go_wp2_with (fail)
  go_ret
  exact ⟨rfl, (Below.refl _ _).alloc (Nat.le_refl _) _⟩
set_option maxRecDepth 100000 in
theorem trip_empty (k0 k1 k2 k3 k4 k5 k6 k7 : Int) (a b : Int) (m : Option Addr) (mc : Nat) (w : World) :
    Calls Ybad.prog 6 #[.agg #[.int .u8 k0, .int .u8 k1, .int .u8 k2, .int .u8 k3, .int .u8 k4, .int .u8 k5, .int .u8 k6, .int .u8 k7], .slice m 0 mc, .int .u8 a, .int .u8 b] w fun e w' =>
      e = .returned (.bool true) ∧ Below w.heap.size w w' := by
  go_enter Ybad.func6, Ybad.ntmps6
  go_wp2_with (fail)
  go_ret
  exact ⟨rfl, (Below.refl _ _).alloc (Nat.le_refl _) _⟩
end Go.Proofs.YbulkbjhgDoor
