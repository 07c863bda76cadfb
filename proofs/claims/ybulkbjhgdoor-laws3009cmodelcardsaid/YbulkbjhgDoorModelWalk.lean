/-
  THE WALK OF LawS3009CModel (5).
-/
import Derived.Test.YbulkbjhgDoorModel
import Derived.Test.YbulkbjhgDoorEq
namespace Go.Proofs.YbulkbjhgDoor
open Go.RowKit Go.Sort Go.Deep

theorem below_put (w W : World) (B g : Nat) (d : Array UInt8) (h : Below B w W) (hg : B ≤ g) : Below B w (putRow u8v W g 0 d) :=
  ⟨h.os, h.tape, h.output, by simpa using h.size, fun k hk => by
    rw [← h.block k hk]
    simp only [putRow, mapBlock, Array.getElem?_modify]
    rw [if_neg (by omega)]⟩
theorem below_drewN {B : Nat} {w W : World} (h : Below B w W) (n : Nat) : Below B w (W.drewN n) := ⟨h.os, h.tape, h.output, h.size, h.block⟩

set_option maxRecDepth 100000 in
set_option maxHeartbeats 2000000 in
theorem model_walk (kb ko kl kc mb mo n mc : Nat) (kd d : Array UInt8) (I : Nat → UInt8) (a b : UInt8) (w : World) (hkd : kd.size = kl) (hd : d.size = n) (hn1 : 1 ≤ n) (hn2 : n ≤ 1024) (l1 : 1 ≤ kl) (l2 : kl ≤ 1024)
    (hkb : kb < w.heap.size) (hmb : mb < w.heap.size) (h2 : 2 < w.heap.size)
    (hk : ∀ j, j < kl → w.cell? ⟨kb, ko + j, none⟩ = some (.int .u8 kd[j]!.toNat))
    (hm : ∀ j, j < n → w.cell? ⟨mb, mo + j, none⟩ = some (.int .u8 d[j]!.toNat))
    (hi : ∀ j, j < 256 → w.cell? ⟨2, j, none⟩ = some (.int .u8 (I j).toNat)) :
    Calls Ybad.prog 5 #[.slice (some ⟨kb, ko, none⟩) kl kc, .slice (some ⟨mb, mo, none⟩) n mc, .int .u8 a.toNat, .int .u8 b.toNat] w fun e w' =>
      e = .returned (.bool true) ∧ Below w.heap.size w w' := by
  have t1 : ¬ (1024 : Int) < (kl : Int) := by omega
  have t2 : ¬ (1024 : Int) < (n : Int) := by omega
  have t3 : ((kl : Int) == 0) = false := by simp; omega
  have t4 : ((n : Int) == 0) = false := by simp; omega
  have hmk1 := make_zrow kl l2
  have hmk2 := make_zrow n hn2
  have HKD : Hid (kd.size = kl) := hkd
  have HD : Hid (d.size = n) := hd
  clear hkd hd
  go_enter Ybad.func5, Ybad.ntmps5
  go_wp2_with (fail)
  -- kc := make; copy(kc, k)
  generalize hW : w.alloc (zrow kl) = W
  have b0 : W.heap[w.heap.size]? = some (zrow kl) := by rw [← hW]; exact heap_alloc_new w _
  have bs : W.heap.size = w.heap.size + 1 := by rw [← hW]; simp
  have bel : Below w.heap.size w W := by rw [← hW]; exact (Below.refl _ _).alloc (Nat.le_refl _) _
  have hk1 : ∀ j, j < kl → W.cell? ⟨kb, ko + j, none⟩ = some (.int .u8 kd[j]!.toNat) := fun j hj => by rw [bel.cell (p := ⟨kb, ko + j, none⟩) hkb]; exact hk j hj
  have hcp := copy_zrow W w.heap.size kb ko kl kc kd HKD.out b0 hk1
  rw [hcp]
  have hz0 := holds_zrow W w.heap.size kl b0
  have hz1 := holds_putRow u8v W w.heap.size 0 _ kd hz0 (by rw [HKD.out]; simp)
  have bel1 := below_put w W w.heap.size w.heap.size kd bel (Nat.le_refl _)
  have bs1 : (putRow u8v W w.heap.size 0 kd).heap.size = w.heap.size + 1 := by simpa using bs
  generalize putRow u8v W w.heap.size 0 kd = W1 at *
  clear hW b0 bs bel hk1 hcp hz0
  go_wp2_with (fail)
  -- mc := make; copy(mc, m)
  generalize hW2 : W1.alloc (zrow n) = W2
  have c0 : W2.heap[w.heap.size + 1]? = some (zrow n) := by rw [← hW2, ← bs1]; exact heap_alloc_new W1 _
  have cs : W2.heap.size = w.heap.size + 2 := by rw [← hW2]; simp [bs1]
  have bel2a : Below (w.heap.size + 1) W1 W2 := by rw [← hW2]; exact (Below.refl _ _).alloc (by rw [bs1]; omega) _
  have bel2 : Below w.heap.size w W2 := bel1.trans (bel2a.mono (by omega))
  have hm2 : ∀ j, j < n → W2.cell? ⟨mb, mo + j, none⟩ = some (.int .u8 d[j]!.toNat) := fun j hj => by rw [bel2.cell (p := ⟨mb, mo + j, none⟩) hmb]; exact hm j hj
  have hcp := copy_zrow W2 (w.heap.size + 1) mb mo n mc d HD.out c0 hm2
  rw [hcp]
  have hz2 := holds_zrow W2 (w.heap.size + 1) n c0
  have hz3 := holds_putRow u8v W2 (w.heap.size + 1) 0 _ d hz2 (by rw [HD.out]; simp)
  have bel3 := below_put w W2 w.heap.size (w.heap.size + 1) d bel2 (by omega)
  have bs3 : (putRow u8v W2 (w.heap.size + 1) 0 d).heap.size = w.heap.size + 2 := by simpa using cs
  have hkc3 : ∀ j, j < kl → (putRow u8v W2 (w.heap.size + 1) 0 d).cell? ⟨w.heap.size, 0 + j, none⟩ = some (.int .u8 kd[j]!.toNat) := fun j hj => by
    rw [cell?_putRow_other _ _ _ _ _ _ (.inl (by simp)), bel2a.cell (p := ⟨w.heap.size, 0 + j, none⟩) (by simp)]
    exact (hz1 j (by rw [HKD.out]; exact hj)).1
  generalize putRow u8v W2 (w.heap.size + 1) 0 d = W3 at *
  clear hW2 c0 cs bel2a bel2 hm2 hcp hz2 hz1 bel1 bs1 hmk1 hmk2
  -- want := the restatement
  have C := cmodel_any kb ko kl kc mb mo n mc (fun j => kd[j]!) I d a b W3 HD.out hn1 hn2 l1 l2 (by omega) (by omega) (by omega)
    (fun j hj => by rw [bel3.cell (p := ⟨kb, ko + j, none⟩) hkb]; exact hk j hj) (fun j hj => by rw [bel3.cell (p := ⟨mb, mo + j, none⟩) hmb]; exact hm j hj)
    (fun j hj => by rw [bel3.cell (p := ⟨2, j, none⟩) h2]; exact hi j hj)
  rw [Ec.cmod_is _ _ _ _ (by rw [HD.out]; exact hn1), bs3] at C
  obtain ⟨dT, hdT⟩ : ∃ dT, Ec.transform (Ec.et I (fun j => kd[j]!) kl) a b d = dT := ⟨_, rfl⟩
  have hsT : dT.size = n := by rw [← hdT, Ec.size_transform, HD.out]
  rw [hdT] at C
  go_wp2_with (fail)
  refine C.mono ?_
  clear C
  rintro e w4 ⟨rfl, hout, hz4, bel4⟩
  have beln : Below w.heap.size w w4 := bel3.trans (bel4.mono (by omega))
  have E4 : Env w4 w.heap.size 0 kl (w.heap.size + 1) 0 (fun j => kd[j]!) I d :=
    ⟨fun j hj => by rw [bel4.cell (p := ⟨w.heap.size, 0 + j, none⟩) (by simp)]; exact hkc3 j hj,
     fun j hj => by rw [beln.cell (p := ⟨2, j, none⟩) h2]; exact hi j hj,
     fun j hj => ⟨by rw [bel4.cell (p := ⟨w.heap.size + 1, 0 + j, none⟩) (by simp)]; exact (hz3 j hj).1, by rw [bel4.frozen (p := ⟨w.heap.size + 1, 0 + j, none⟩) (by simp)]; exact (hz3 j hj).2⟩,
     by omega, by omega, l1, l2, by rw [HD.out]; exact hn1, by rw [HD.out]; exact hn2⟩
  have T := transform_any w.heap.size 0 kl kl (w.heap.size + 1) 0 n (fun j => kd[j]!) I d a b w4 E4
  rw [hdT, HD.out] at T
  have hx5 : ∀ j, j < n → (putRow u8v w4 (w.heap.size + 1) 0 dT).cell? ⟨w.heap.size + 1, 0 + j, none⟩ = some (.int .u8 dT[j]!.toNat) := fun j hj =>
    (holds_putRow u8v w4 (w.heap.size + 1) 0 _ dT E4.row (by rw [hsT, HD.out]) j (by rw [hsT]; exact hj)).1
  have hy5 : ∀ j, j < n → (putRow u8v w4 (w.heap.size + 1) 0 dT).cell? ⟨w.heap.size + 2 + 1, 0 + j, none⟩ = some (.int .u8 dT[j]!.toNat) := fun j hj => by
    rw [cell?_putRow_other _ _ _ _ _ _ (.inl (by simp))]; exact hout j hj
  have hk5 : ∀ j, j < kl → (putRow u8v w4 (w.heap.size + 1) 0 dT).cell? ⟨w.heap.size, 0 + j, none⟩ = some (.int .u8 kd[j]!.toNat) := fun j hj => by
    rw [cell?_putRow_other _ _ _ _ _ _ (.inl (by simp))]; exact E4.key j hj
  have hk6 : ∀ j, j < kl → (putRow u8v w4 (w.heap.size + 1) 0 dT).cell? ⟨kb, ko + j, none⟩ = some (.int .u8 kd[j]!.toNat) := fun j hj => by
    rw [cell?_putRow_other _ _ _ _ _ _ (.inl (show kb ≠ w.heap.size + 1 by omega)), beln.cell (p := ⟨kb, ko + j, none⟩) hkb]; exact hk j hj
  have HB5 : Hid (Below w.heap.size w (putRow u8v w4 (w.heap.size + 1) 0 dT)) := below_put _ _ _ _ _ beln (by omega)
  clear hout hz4 bel4 beln E4 hkc3 hz3 bel3 bs3 hk hm hi hdT
  go_wp2_with (fail)
  refine T.mono ?_
  clear T
  rintro _ _ ⟨rfl, m1, rfl⟩
  generalize putRow u8v w4 (w.heap.size + 1) 0 dT = V at *
  go_wp2_with (fail)
  refine (eq_any (w.heap.size + 1) 0 n (w.heap.size + 2 + 1) 0 n n (fun j => dT[j]!) _ hn2 (by exact hx5) (by exact hy5)).mono ?_
  rintro _ _ ⟨rfl, m2, rfl⟩
  go_wp2_with (fail)
  refine (eq_any w.heap.size 0 kl kb ko kc kl (fun j => kd[j]!) _ l2 (by exact hk5) (by exact hk6)).mono ?_
  rintro _ _ ⟨rfl, m3, rfl⟩
  go_wp2_with (fail)
  go_ret
  exact ⟨rfl, below_drewN HB5.out _⟩
#print axioms model_walk

set_option maxRecDepth 100000 in
theorem model_short (k m : Option Addr) (kl kc n mc : Nat) (a b : Int) (w : World) (h : 1024 < kl ∨ 1024 < n ∨ kl = 0 ∨ n = 0) :
    Calls Ybad.prog 5 #[.slice k kl kc, .slice m n mc, .int .u8 a, .int .u8 b] w fun e w' => e = .returned (.bool true) ∧ Below w.heap.size w w' := by
  by_cases h1 : (1024 : Int) < (kl : Int)
  · go_enter Ybad.func5, Ybad.ntmps5
    go_wp2_with (fail)
    go_ret
    exact ⟨rfl, Below.refl _ _⟩
  · by_cases h2 : (1024 : Int) < (n : Int)
    · go_enter Ybad.func5, Ybad.ntmps5
      go_wp2_with (fail)
      go_ret
      exact ⟨rfl, Below.refl _ _⟩
    · by_cases h3 : kl = 0
      · have h3' : ((kl : Int) == 0) = true := by simp [h3]
        clear h h3
        go_enter Ybad.func5, Ybad.ntmps5
        go_wp2_with (fail)
        go_ret
        exact ⟨rfl, Below.refl _ _⟩
      · have h3' : ((kl : Int) == 0) = false := by simp; omega
        have h4' : ((n : Int) == 0) = true := by simp; omega
        clear h h3
        go_enter Ybad.func5, Ybad.ntmps5
        go_wp2_with (fail)
        go_ret
        exact ⟨rfl, Below.refl _ _⟩
end Go.Proofs.YbulkbjhgDoor
