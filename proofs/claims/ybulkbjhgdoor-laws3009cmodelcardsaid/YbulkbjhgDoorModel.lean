/-
  THE WALK OF zzs3009cmodel (11): the restatement computes 'Ec.cmod' in memory of its own.
-/
import Derived.Test.YbulkbjhgDoorCet
import Derived.Test.YbulkbjhgDoorModelPlain
import Derived.Test.YbulkbjhgDoorMem
namespace Go.Proofs.YbulkbjhgDoor
open Go.RowKit Go.Sort Go.Deep

theorem shl7 (x : UInt8) : bits .or .u8 ((x.toNat : Int) / 2) ((x.toNat : Int) * 128 % 256) = ((Ec.rotr x).toNat : Int) := by
  have h : ∀ n : Nat, n < 256 → bits .or .u8 ((n : Int) / 2) ((n : Int) * 128 % 256) = ((Ec.rotr (UInt8.ofNat n)).toNat : Int) := by decide +kernel
  have := h x.toNat x.toNat_lt
  rwa [UInt8.ofNat_toNat] at this

theorem W_set0 (w V : World) (g : Nat) (d0 : Array UInt8) (hV : putRow u8v w g 0 d0 = V) (hH : Holds u8v V g 0 d0) (n i : Nat) (r : UInt8) (hi : i < d0.size) :
    (V.drewN n).setCell ⟨g, i, none⟩ (u8v r) = (putRow u8v w g 0 (d0.setIfInBounds i r)).drewN n := by
  have h := W_set V g 0 d0 hH n i r hi
  rw [Nat.zero_add] at h
  rw [h, ← hV, putRow_putRow _ _ _ _ _ _ (by simp)]
theorem W_swap0 (w V : World) (g : Nat) (d : Array UInt8) (hV : putRow u8v w g 0 d = V) (n i j : Nat) (hi : i < d.size) (hj : j < d.size) :
    ((V.drewN n).setCell ⟨g, i, none⟩ (u8v d[j]!)).setCell ⟨g, j, none⟩ (u8v d[i]!) = (putRow u8v w g 0 (Ec.swap d i j)).drewN n := by
  have h := W_swap w V g 0 d hV n i j hi hj
  rwa [Nat.zero_add, Nat.zero_add] at h
/-- The two stores of a trade of bits. -/
theorem W_trade0 (w V : World) (g : Nat) (d : Array UInt8) (hV : putRow u8v w g 0 d = V) (n q : Nat) (F : UInt8 → UInt8) (a x0 x1 x z e y r0 r1 : UInt8) (h1 : q + 1 < d.size)
    (hx0 : d[q]! = x0) (hx1 : d[q + 1]! = x1) (hx : x0 ^^^ x1 = x) (hz : x ^^^ a = z) (he : F z = e) (hy : x &&& e = y) (hr0 : x0 ^^^ y = r0) (hr1 : x1 ^^^ y = r1) :
    ((V.drewN n).setCell ⟨g, q, none⟩ (u8v r0)).setCell ⟨g, q + 1, none⟩ (u8v r1) = (putRow u8v w g 0 (Ec.trade F d (q + 1) a)).drewN n := by
  subst hV
  have e1 := putRow_set u8v w g 0 d q r0 (by omega)
  have e2 := putRow_set u8v w g 0 (d.setIfInBounds q r0) (q + 1) r1 (by simpa using h1)
  rw [Nat.zero_add] at e1 e2
  show (((putRow u8v w g 0 d).setCell ⟨g, q, none⟩ (u8v r0)).setCell ⟨g, q + 1, none⟩ (u8v r1)).drewN n = _
  rw [e1, e2]
  congr 2
  simp only [Ec.trade, Nat.add_sub_cancel, hx0, hx1, hx, hz, he, hy, hr0, hr1]

set_option maxRecDepth 100000 in
set_option maxHeartbeats 2000000 in
theorem cmodel_any (kb ko kl kc sb so n sc : Nat) (K I : Nat → UInt8) (d : Array UInt8) (a b : UInt8) (w : World) (hd : d.size = n) (hn1 : 1 ≤ n) (hn2 : n ≤ 1024) (l1 : 1 ≤ kl) (l2 : kl ≤ 1024)
    (hkb : kb < w.heap.size) (hsb : sb < w.heap.size) (h2 : 2 < w.heap.size)
    (hk : ∀ j, j < kl → w.cell? ⟨kb, ko + j, none⟩ = some (.int .u8 (K j).toNat))
    (hs : ∀ j, j < n → w.cell? ⟨sb, so + j, none⟩ = some (.int .u8 d[j]!.toNat))
    (hi : ∀ j, j < 256 → w.cell? ⟨2, j, none⟩ = some (.int .u8 (I j).toNat)) :
    Calls Ybad.prog 11 #[.slice (some ⟨kb, ko, none⟩) kl kc, .slice (some ⟨sb, so, none⟩) n sc, .int .u8 a.toNat, .int .u8 b.toNat] w fun e w' =>
      e = .returned (.slice (some ⟨w.heap.size + 1, 0, none⟩) n n) ∧ (∀ j, j < n → w'.cell? ⟨w.heap.size + 1, 0 + j, none⟩ = some (.int .u8 (Ec.cmod (Ec.et I K kl) a b d)[j]!.toNat)) ∧ w.heap.size + 1 < w'.heap.size ∧ Below w.heap.size w w' := by
  have hmk := make_zrow n hn2
  obtain ⟨F, hF⟩ : ∃ F, Ec.et I K kl = F := ⟨_, rfl⟩
  have HF : Hid (Ec.et I K kl = F) := hF
  rw [hF]
  clear hF
  have HD : Hid (d.size = n) := hd
  clear hd
  go_enter Ybad.func11, Ybad.ntmps11
  go_wp2_with (fail)
  generalize hW : w.alloc (zrow n) = W
  have b0 : W.heap[w.heap.size]? = some (zrow n) := by rw [← hW]; exact heap_alloc_new w _
  have bs : W.heap.size = w.heap.size + 1 := by rw [← hW]; simp
  have bel : Below w.heap.size w W := by rw [← hW]; exact (Below.refl _ _).alloc (Nat.le_refl _) _
  have hs1 : ∀ j, j < n → W.cell? ⟨sb, so + j, none⟩ = some (.int .u8 d[j]!.toNat) := fun j hj => by rw [bel.cell (p := ⟨sb, so + j, none⟩) hsb]; exact hs j hj
  have hcp := copy_zrow W w.heap.size sb so n sc d HD.out b0 hs1
  rw [hcp]
  have E0 : Env W kb ko kl w.heap.size 0 K I (Array.replicate n 0) :=
    ⟨fun j hj => by rw [bel.cell (p := ⟨kb, ko + j, none⟩) hkb]; exact hk j hj, fun j hj => by rw [bel.cell (p := ⟨2, j, none⟩) h2]; exact hi j hj, holds_zrow W w.heap.size n b0, by omega, by omega, l1, l2, by simp; omega, by simp; omega⟩
  have HBEL : Hid (Below w.heap.size w W) := bel
  have HBS : Hid (W.heap.size = w.heap.size + 1) := bs
  clear hcp hs1 hW b0 bel bs hk hs hi hsb hkb h2
  have HMK : Hid (∀ w, (Instr.makeSlice 27 (.int .i64 (n : Int)) (.int .i64 (n : Int))).run Ybad.prog w = .ok (.slice (some ⟨w.heap.size, 0, none⟩) n n) (w.alloc (zrow n))) := hmk
  clear hmk
  go_wp2_with (fail)
  go_loopw [2, 11] (fun va vi wr => ∃ k m : Nat, k ≤ n ∧ vi = .int .i64 k ∧ va = .int .u8 (Ec.rotrN (k - 1) a).toNat ∧ wr = (putRow u8v W w.heap.size 0 (Ec.tr1 F b a d k)).drewN m) (fun _ vi _ => n - (intOf vi).toNat)
  case atStart => exact ⟨0, 0, by omega, rfl, rfl, rfl⟩
  case round =>
    obtain ⟨k, m, hk, rfl, rfl, rfl⟩ := hrel
    have hs1 : (Ec.tr1 F b a d k).size = n := by rw [Ec.size_tr1, HD.out]
    have E1 := E0.put (Ec.tr1 F b a d k) (by rw [hs1]; simp)
    generalize hV : putRow u8v W w.heap.size 0 (Ec.tr1 F b a d k) = V at *
    have HV : Hid (putRow u8v W w.heap.size 0 (Ec.tr1 F b a d k) = V) := hV
    clear hV
    by_cases hlt : k < n
    · obtain ⟨x, hx⟩ : ∃ x, (Ec.tr1 F b a d k)[k]! = x := ⟨_, rfl⟩
      have c0 : V.cell? ⟨w.heap.size, k, none⟩ = some (.int .u8 x.toNat) := by have := (E1.row k (by omega)).1; rwa [Nat.zero_add, hx] at this
      have f0 : V.frozen? ⟨w.heap.size, k, none⟩ = false := by have := (E1.row k (by omega)).2; rwa [Nat.zero_add] at this
      generalize ha0 : Ec.rotrN (k - 1) a = a0
      obtain ⟨a1, ha1⟩ : ∃ a1, Ec.rotrN k a = a1 := ⟨_, rfl⟩
      obtain ⟨z, hz⟩ : ∃ z, x ^^^ a1 = z := ⟨_, rfl⟩
      obtain ⟨e, he⟩ : ∃ e, F z = e := ⟨_, rfl⟩
      obtain ⟨r, hr⟩ : ∃ r, b ^^^ e = r := ⟨_, rfl⟩
      have bx := xor_int x a1
      have br := xor_int b e
      rw [hz] at bx
      rw [hr] at br
      obtain ⟨d1, hd1⟩ : ∃ d1, (Ec.tr1 F b a d k).setIfInBounds k r = d1 := ⟨_, rfl⟩
      have hsd1 : d1.size = n := by rw [← hd1]; simpa using hs1
      have HSET : Hid (∀ m, (V.drewN m).setCell ⟨w.heap.size, k, none⟩ (u8v r) = (putRow u8v W w.heap.size 0 d1).drewN m) := fun m => by
        rw [W_set0 W V _ _ HV.out E1.row m k r (by omega), hd1]
      have HE : Hid (F z = e) := he
      have HD1 : Hid ((Ec.tr1 F b a d k).setIfInBounds k (b ^^^ F ((Ec.tr1 F b a d k)[k]! ^^^ Ec.rotrN k a)) = d1) := by show _ = _; rw [ha1, hx, hz, he, hr, hd1]
      have HA0 : Hid (Ec.rotrN (k - 1) a = a0) := ha0
      have HA1 : Hid (Ec.rotrN k a = a1) := ha1
      clear hz he hr hd1 ha0 ha1 hx
      by_cases hk0 : (k : Int) ≤ 0
      · obtain rfl : a0 = a1 := by rw [← HA0.out, ← HA1.out]; congr 1; omega
        have hk0' : ¬ (1 : Int) ≤ (k : Int) := by omega
        have hk0'' : ¬ (2 : Int) ≤ (k : Int) := by omega
        go_wp2_with (fail)
        refine (cet_any kb ko kl kc K I z (V.drewN m) l1 l2 E1.key E1.box).mono ?_
        rw [HF.out, HE.out]
        rintro e w' ⟨rfl, m2, rfl⟩
        go_wp2_with (fail)
        go_roundw
        case rel =>
          refine ⟨k + 1, m + m2, by omega, by go_num, by rw [Nat.add_sub_cancel, HA1.out], ?_⟩
          rw [HSET.out (m + m2), Ec.tr1, Ec.roundT, HD1.out]
          simp only [show ¬ 0 < k by omega, show ¬ 1 < k by omega, if_false]
        case measure => simp [intOf]; omega
      · obtain ⟨q, rfl⟩ : ∃ q, k = q + 1 := ⟨k - 1, by omega⟩
        have HR : Hid (Ec.rotr a0 = a1) := by show _ = _; rw [← HA1.out, ← HA0.out, Nat.add_sub_cancel]; rfl
        have E2 := E0.put d1 (by rw [hsd1]; simp)
        generalize hV2 : putRow u8v W w.heap.size 0 d1 = V2 at *
        have HV2 : Hid (putRow u8v W w.heap.size 0 d1 = V2) := hV2
        clear hV2
        have sh := shl7 a0
        rw [HR.out] at sh
        go_wp2_with (fail)
        refine (cet_any kb ko kl kc K I z (V.drewN m) l1 l2 E1.key E1.box).mono ?_
        rw [HF.out, HE.out]
        rintro e w' ⟨rfl, m2, rfl⟩
        -- the trade of bits
        obtain ⟨x0, hx0⟩ : ∃ x, d1[q]! = x := ⟨_, rfl⟩
        obtain ⟨x1, hx1⟩ : ∃ x, d1[q + 1]! = x := ⟨_, rfl⟩
        obtain ⟨xx, hxx⟩ : ∃ x, x0 ^^^ x1 = x := ⟨_, rfl⟩
        obtain ⟨z2, hz2⟩ : ∃ z, xx ^^^ a1 = z := ⟨_, rfl⟩
        obtain ⟨e2, he2⟩ : ∃ e, F z2 = e := ⟨_, rfl⟩
        obtain ⟨y, hy⟩ : ∃ y, xx &&& e2 = y := ⟨_, rfl⟩
        obtain ⟨r0, hr0⟩ : ∃ r, x0 ^^^ y = r := ⟨_, rfl⟩
        obtain ⟨r1, hr1⟩ : ∃ r, x1 ^^^ y = r := ⟨_, rfl⟩
        have t1 := xor_int x0 x1
        have t2 := xor_int xx a1
        have t3 := and_int xx e2
        have t4 := xor_int x0 y
        have t5 := xor_int x1 y
        rw [hxx] at t1
        rw [hz2] at t2
        rw [hy] at t3
        rw [hr0] at t4
        rw [hr1] at t5
        have p0 : V2.cell? ⟨w.heap.size, q, none⟩ = some (.int .u8 x0.toNat) := by have := (E2.row q (by omega)).1; rwa [Nat.zero_add, hx0] at this
        have p1 : V2.cell? ⟨w.heap.size, q + 1, none⟩ = some (.int .u8 x1.toNat) := by have := (E2.row (q + 1) (by omega)).1; rwa [Nat.zero_add, hx1] at this
        have g0 : V2.frozen? ⟨w.heap.size, q, none⟩ = false := by have := (E2.row q (by omega)).2; rwa [Nat.zero_add] at this
        have g1 : V2.frozen? ⟨w.heap.size, q + 1, none⟩ = false := by have := (E2.row (q + 1) (by omega)).2; rwa [Nat.zero_add] at this
        obtain ⟨d2, hd2⟩ : ∃ d2, Ec.trade F d1 (q + 1) a1 = d2 := ⟨_, rfl⟩
        have hsd2 : d2.size = n := by rw [← hd2, Ec.size_trade, hsd1]
        have HTR : Hid (∀ m, ((V2.drewN m).setCell ⟨w.heap.size, q, none⟩ (u8v r0)).setCell ⟨w.heap.size, q + 1, none⟩ (u8v r1) = (putRow u8v W w.heap.size 0 d2).drewN m) := fun m => by
          rw [W_trade0 W V2 _ d1 HV2.out m q F a1 x0 x1 xx z2 e2 y r0 r1 (by omega) hx0 hx1 hxx hz2 he2 hy hr0 hr1, hd2]
        have HYR : Hid (d2[q + 1]! = r1) := by
          show _ = _
          rw [← hd2]
          simp only [Ec.trade, Nat.add_sub_cancel, hx0, hx1, hxx, hz2, he2, hy, hr0, hr1]
          exact Sort.getElem!_set_same _ _ _ (by simp; omega)
        have HE2 : Hid (F z2 = e2) := he2
        have HD2 : Hid (Ec.trade F d1 (q + 1) a1 = d2) := hd2
        clear hx0 hx1 hxx hz2 he2 hy hr0 hr1 hd2
        go_wp2_with (fail)
        rw [HSET.out]
        clear c0 f0 E1 bx br
        go_quiet (fail)
        go_wp2_with (fail)
        refine (cet_any kb ko kl kc K I z2 _ l1 l2 (by exact E2.key) (by exact E2.box)).mono ?_
        rw [HF.out, HE2.out]
        rintro _ _ ⟨rfl, m3, rfl⟩
        by_cases hk1 : (q : Int) + 1 ≤ 1
        · have hk2 : ¬ (2 : Int) ≤ (q : Int) + 1 := by omega
          go_wp2_with (fail)
          go_roundw
          case rel =>
            refine ⟨q + 1 + 1, m + m2 + nq + m3, by omega, by go_num, by rw [Nat.add_sub_cancel, HA1.out], ?_⟩
            rw [HTR.out, Ec.tr1, Ec.roundT, HD1.out, HA1.out]
            simp only [show 0 < q + 1 by omega, show ¬ 1 < q + 1 by omega, if_false, if_true]
            rw [HD2.out]
          case measure => simp [intOf]; omega
        · have hk2 : (2 : Int) ≤ (q : Int) + 1 := by omega
          have E3 := E0.put d2 (by rw [hsd2]; simp)
          generalize hV3 : putRow u8v W w.heap.size 0 d2 = V3 at *
          have HV3 : Hid (putRow u8v W w.heap.size 0 d2 = V3) := hV3
          clear hV3
          go_wp2_with (fail)
          rw [HTR.out]
          clear p0 p1 g0 g1 E2 t1 t2 t3 t4 t5 sh
          obtain ⟨j, hj⟩ : ∃ j, Ec.kidx F (q + 1) r1 a1 = j := ⟨_, rfl⟩
          have hjk : j < q + 1 := by rw [← hj]; exact Ec.kidx_lt _ _ _ _ (by omega)
          have C := cidx_any kb ko kl kc (q + 1) K I _ _ r1 a1 rfl rfl (V3.drewN (m + m2 + nq + m3)) l1 l2 (by omega) E3.key E3.box
          rw [show ((q + 1 : Nat) : Int) = (q : Int) + 1 by omega, HF.out, hj] at C
          refine C.mono ?_
          have HJ : Hid (Ec.kidx F (q + 1) r1 a1 = j) := hj
          clear hj C
          rintro _ _ ⟨rfl, m4, rfl⟩
          obtain ⟨G, hG⟩ : ∃ G : Nat → UInt8, ∀ t, G t = d2[t]! := ⟨fun t => d2[t]!, fun _ => rfl⟩
          have cq : V3.cell? ⟨w.heap.size, q, none⟩ = some (.int .u8 (G q).toNat) := by have := (E3.row q (by omega)).1; rwa [Nat.zero_add, ← hG] at this
          have cj : V3.cell? ⟨w.heap.size, j, none⟩ = some (.int .u8 (G j).toNat) := by have := (E3.row j (by omega)).1; rwa [Nat.zero_add, ← hG] at this
          have fq : V3.frozen? ⟨w.heap.size, q, none⟩ = false := by have := (E3.row q (by omega)).2; rwa [Nat.zero_add] at this
          have fj : V3.frozen? ⟨w.heap.size, j, none⟩ = false := by have := (E3.row j (by omega)).2; rwa [Nat.zero_add] at this
          have HG : Hid (∀ t, G t = d2[t]!) := hG
          clear hG
          obtain ⟨v', hv'⟩ := cell?_setCell_some (w := V3.drewN (m + m2 + nq + m3 + m4)) (p := ⟨w.heap.size, j, none⟩) (x := .int .u8 (G q).toNat) (q := ⟨w.heap.size, q, none⟩) (v := .int .u8 (G q).toNat) cq
          have hjn : (j : Int) < (n : Int) := by omega
          go_wp2_with (fail)
          go_roundw
          case rel =>
            refine ⟨q + 1 + 1, m + m2 + nq + m3 + m4, by omega, by go_num, by rw [Nat.add_sub_cancel, HA1.out], ?_⟩
            rw [HG.out, HG.out, W_swap0 W V3 _ d2 HV3.out _ j q (by omega) (by omega), Ec.tr1, Ec.roundT, HD1.out, HA1.out]
            simp only [show 0 < q + 1 by omega, show 1 < q + 1 by omega, if_true]
            rw [HD2.out, HYR.out, HJ.out, Nat.add_sub_cancel]
          case measure => simp [intOf]; omega
    · have hkn : k = n := by omega
      subst k
      obtain ⟨a1, ha1⟩ : ∃ a1, Ec.rotrN (n - 1) a = a1 := ⟨_, rfl⟩
      rw [ha1]
      have HA1 : Hid (Ec.rotrN (n - 1) a = a1) := ha1
      obtain ⟨d1, hd1⟩ : ∃ d1, Ec.tr1 F b a d n = d1 := ⟨_, rfl⟩
      rw [hd1] at E1 HV hs1
      have HD1 : Hid (Ec.tr1 F b a d n = d1) := hd1
      clear hd1 ha1
      go_wp2_with (fail)
      obtain ⟨j, hj⟩ : ∃ j, Ec.kidx F n 0x37 a1 = j := ⟨_, rfl⟩
      have hjk : j < n := by rw [← hj]; exact Ec.kidx_lt _ _ _ _ (by omega)
      refine (cidx_any kb ko kl kc n K I _ _ 0x37 a1 rfl rfl (V.drewN m) l1 l2 hn2 E1.key E1.box).mono ?_
      rw [HF.out, hj]
      have HJ : Hid (Ec.kidx F n 0x37 a1 = j) := hj
      clear hj
      rintro _ _ ⟨rfl, m3, rfl⟩
      obtain ⟨G, hG⟩ : ∃ G : Nat → UInt8, ∀ t, G t = d1[t]! := ⟨fun t => d1[t]!, fun _ => rfl⟩
      have cq : V.cell? ⟨w.heap.size, n - 1, none⟩ = some (.int .u8 (G (n - 1)).toNat) := by have := (E1.row (n - 1) (by omega)).1; rwa [Nat.zero_add, ← hG] at this
      have cj : V.cell? ⟨w.heap.size, j, none⟩ = some (.int .u8 (G j).toNat) := by have := (E1.row j (by omega)).1; rwa [Nat.zero_add, ← hG] at this
      have fq : V.frozen? ⟨w.heap.size, n - 1, none⟩ = false := by have := (E1.row (n - 1) (by omega)).2; rwa [Nat.zero_add] at this
      have fj : V.frozen? ⟨w.heap.size, j, none⟩ = false := by have := (E1.row j (by omega)).2; rwa [Nat.zero_add] at this
      have HG : Hid (∀ t, G t = d1[t]!) := hG
      clear hG
      obtain ⟨v', hv'⟩ := cell?_setCell_some (w := V.drewN (m + m3)) (p := ⟨w.heap.size, j, none⟩) (x := .int .u8 (G (n - 1)).toNat) (q := ⟨w.heap.size, n - 1, none⟩) (v := .int .u8 (G (n - 1)).toNat) cq
      have hjn : (j : Int) < (n : Int) := by omega
      obtain ⟨d2, hd2⟩ : ∃ d2, Ec.mid F (Ec.rotrN (n - 1) a) (Ec.tr1 F b a d n) = d2 := ⟨_, rfl⟩
      have hs2 : d2.size = n := by rw [← hd2, Ec.size_mid, Ec.size_tr1, HD.out]
      have HSW : Hid (∀ m, ((V.drewN m).setCell ⟨w.heap.size, j, none⟩ (u8v (G (n - 1)))).setCell ⟨w.heap.size, n - 1, none⟩ (u8v (G j)) = (putRow u8v W w.heap.size 0 d2).drewN m) := fun m => by
        rw [HG.out, HG.out, W_swap0 W V _ d1 HV.out _ j (n - 1) (by omega) (by omega), ← hd2, HD1.out, HA1.out, Ec.mid, hs1, HJ.out]
      have HD2 : Hid (Ec.mid F (Ec.rotrN (n - 1) a) (Ec.tr1 F b a d n) = d2) := hd2
      clear hd2
      go_wp2_with (fail)
      go_loopw [18, 19] (fun va vi wr => ∃ k m : Nat, k ≤ n ∧ vi = .int .i64 k ∧ va = .int .u8 (Ec.cm2 F d2 k).2.toNat ∧ wr = (putRow u8v W w.heap.size 0 (Ec.cm2 F d2 k).1).drewN m) (fun _ vi _ => n - (intOf vi).toNat)
      case atStart => exact ⟨0, _, by omega, rfl, rfl, HSW.out _⟩
      case round =>
        clear cq cj fq fj hv' E1 hlt hk
        obtain ⟨k, m4, hk, rfl, rfl, rfl⟩ := hrel
        have hs3 : (Ec.cm2 F d2 k).1.size = n := by rw [Ec.size_cm2, hs2]
        have E3 := E0.put (Ec.cm2 F d2 k).1 (by rw [hs3]; simp)
        generalize hV3 : putRow u8v W w.heap.size 0 (Ec.cm2 F d2 k).1 = V3 at *
        have HV3 : Hid (putRow u8v W w.heap.size 0 (Ec.cm2 F d2 k).1 = V3) := hV3
        obtain ⟨acc, ha⟩ : ∃ acc, (Ec.cm2 F d2 k).2 = acc := ⟨_, rfl⟩
        rw [ha]
        have HA : Hid ((Ec.cm2 F d2 k).2 = acc) := ha
        clear hV3 ha
        by_cases hlt : k < n
        · obtain ⟨y, hy⟩ : ∃ y, (Ec.cm2 F d2 k).1[k]! = y := ⟨_, rfl⟩
          have c3 : V3.cell? ⟨w.heap.size, k, none⟩ = some (.int .u8 y.toNat) := by have := (E3.row k (by omega)).1; rwa [Nat.zero_add, hy] at this
          have f3 : V3.frozen? ⟨w.heap.size, k, none⟩ = false := by have := (E3.row k (by omega)).2; rwa [Nat.zero_add] at this
          obtain ⟨e, he⟩ : ∃ e, F y = e := ⟨_, rfl⟩
          have bx := xor_int acc e
          obtain ⟨acc', ha'⟩ : ∃ q, acc ^^^ e = q := ⟨_, rfl⟩
          rw [ha'] at bx
          have HN : Hid (Ec.cm2 F d2 (k + 1) = ((Ec.cm2 F d2 k).1.setIfInBounds k e, acc')) := by show _ = _; rw [Ec.cm2, hy, he, HA.out, ha']
          have HE : Hid (F y = e) := he
          clear ha' he hy
          go_wp2_with (fail)
          refine (cet_any kb ko kl kc K I y _ l1 l2 (by exact E3.key) (by exact E3.box)).mono ?_
          rw [HF.out, HE.out]
          rintro _ _ ⟨rfl, m5, rfl⟩
          go_wp2_with (fail)
          go_roundw
          case rel =>
            refine ⟨k + 1, m4 + m5, by omega, by go_num, by rw [HN.out], ?_⟩
            rw [HN.out, W_set0 W V3 _ _ HV3.out E3.row _ _ _ (by omega)]
          case measure => simp [intOf]; omega
        · have hkn : k = n := by omega
          subst k
          have hmk := HMK.out
          have hsz : V3.heap.size = w.heap.size + 1 := by rw [← HV3.out]; simpa using HBS.out
          obtain ⟨M, hM⟩ : ∃ M, (Ec.cm2 F d2 n).1 = M := ⟨_, rfl⟩
          rw [hM] at hs3 E3 HV3
          have HM : Hid ((Ec.cm2 F d2 n).1 = M) := hM
          clear hM
          obtain ⟨X, hX⟩ : ∃ X, (V3.drewN m4).alloc (zrow n) = X := ⟨_, rfl⟩
          have hXn : X.heap[w.heap.size + 1]? = some (zrow n) := by
            rw [← hX]
            have := heap_alloc_new (V3.drewN m4) (zrow n)
            rwa [World.heap_drewN, hsz] at this
          have hXo : ∀ k, k < w.heap.size + 1 → X.heap[k]? = V3.heap[k]? := fun k hk => by
            rw [← hX, Below.heap_alloc _ _ _ (by rw [World.heap_drewN, hsz]; exact hk), World.heap_drewN]
          have hXs : X.heap.size = w.heap.size + 2 := by rw [← hX]; simp [hsz]
          have HXH := holds_zrow X (w.heap.size + 1) n hXn
          have hXm : ∀ j, j < n → X.cell? ⟨w.heap.size, 0 + j, none⟩ = some (.int .u8 M[j]!.toNat) := fun j hj => by
            rw [World.cell?_of_block (w := V3) (hXo w.heap.size (by omega))]
            exact (E3.row j (by omega)).1
          have HBX : Hid (Below w.heap.size w X) := by
            refine ⟨?_, ?_, ?_, by rw [hXs]; omega, fun k hk => ?_⟩
            · rw [← hX]; rw [← HBEL.out.os, ← HV3.out]; rfl
            · rw [← hX]; rw [← HBEL.out.tape, ← HV3.out]; rfl
            · rw [← hX]; rw [← HBEL.out.output, ← HV3.out]; rfl
            · rw [hXo k (by omega), ← HBEL.out.block k hk, ← HV3.out]
              simp only [putRow, mapBlock, Array.getElem?_modify]
              rw [if_neg (by omega)]
          have cX : ((V3.drewN m4).alloc (zrow n)).cell? ⟨w.heap.size + 1, 0, none⟩ = some (.int .u8 0) := by
            rw [hX]; have := (HXH 0 (by simp; omega)).1; rw [getElem!_pos _ 0 (by simp; omega), Array.getElem_replicate] at this; exact this
          have fX : ((V3.drewN m4).alloc (zrow n)).frozen? ⟨w.heap.size + 1, 0, none⟩ = false := by
            rw [hX]; exact (HXH 0 (by simp; omega)).2
          have HX : Hid ((V3.drewN m4).alloc (zrow n) = X) := hX
          have HXS : Hid (X.heap.size = w.heap.size + 2) := hXs
          clear hX hXn hXo hXs
          obtain ⟨o0, ho0⟩ : ∃ o0, (Array.replicate n (0 : UInt8)).setIfInBounds 0 acc = o0 := ⟨_, rfl⟩
          have hso : o0.size = n := by rw [← ho0]; simp
          have HSO : Hid (X.setCell ⟨w.heap.size + 1, 0, none⟩ (u8v acc) = putRow u8v X (w.heap.size + 1) 0 o0) := by
            show _ = _
            have := W_set X (w.heap.size + 1) 0 _ HXH 0 0 acc (by simp; omega)
            rw [Nat.zero_add, ho0] at this
            exact this
          have HC : Hid (Ec.cmod F a b d = Ec.cm3 acc M o0 (n - 1)) := by
            show _ = _
            unfold Ec.cmod
            simp only
            rw [HD.out, HD2.out, HA.out, HM.out, ho0]
          have HHX : Hid (Holds u8v X (w.heap.size + 1) 0 (Array.replicate n 0)) := HXH
          clear ho0 HXH
          go_wp2_with (fail)
          rw [HX.out]
          clear cX fX hmk hsz
          go_loopw [21] (fun vi wr => ∃ k : Nat, k + 1 ≤ n ∧ vi = .int .i64 ((k : Int) + 1) ∧ wr = putRow u8v X (w.heap.size + 1) 0 (Ec.cm3 acc M o0 k)) (fun vi _ => n - (intOf vi).toNat)
          case atStart => exact ⟨0, by omega, rfl, HSO.out⟩
          case round =>
            obtain ⟨k, hk, rfl, rfl⟩ := hrel
            have hs5 : (Ec.cm3 acc M o0 k).size = n := by rw [Ec.size_cm3, hso]
            have HV5 := holds_putRow u8v X (w.heap.size + 1) 0 _ (Ec.cm3 acc M o0 k) HHX.out (by rw [hs5]; simp)
            have hm5 : ∀ j, j < n → (putRow u8v X (w.heap.size + 1) 0 (Ec.cm3 acc M o0 k)).cell? ⟨w.heap.size, 0 + j, none⟩ = some (.int .u8 M[j]!.toNat) := fun j hj => by
              rw [cell?_putRow_other _ _ _ _ _ _ (.inl (by simp))]; exact hXm j hj
            generalize hV5 : putRow u8v X (w.heap.size + 1) 0 (Ec.cm3 acc M o0 k) = V5 at *
            have HQ5 : Hid (putRow u8v X (w.heap.size + 1) 0 (Ec.cm3 acc M o0 k) = V5) := hV5
            clear hV5
            by_cases hlt2 : k + 1 < n
            · obtain ⟨y, hy⟩ : ∃ y, M[k + 1]! = y := ⟨_, rfl⟩
              have c5 : V5.cell? ⟨w.heap.size, k + 1, none⟩ = some (.int .u8 y.toNat) := by have := hm5 (k + 1) hlt2; rwa [Nat.zero_add, hy] at this
              obtain ⟨vo, c6⟩ : ∃ vo, V5.cell? ⟨w.heap.size + 1, k + 1, none⟩ = some vo := by have := (HV5 (k + 1) (by omega)).1; rw [Nat.zero_add] at this; exact ⟨_, this⟩
              have f6 : V5.frozen? ⟨w.heap.size + 1, k + 1, none⟩ = false := by have := (HV5 (k + 1) (by omega)).2; rwa [Nat.zero_add] at this
              have bx := xor_int y acc
              obtain ⟨r, hr⟩ : ∃ q, y ^^^ acc = q := ⟨_, rfl⟩
              rw [hr] at bx
              have HN : Hid (Ec.cm3 acc M o0 (k + 1) = (Ec.cm3 acc M o0 k).setIfInBounds (k + 1) r) := by show _ = _; rw [Ec.cm3, hy, hr]
              have HS5 : Hid (V5.setCell ⟨w.heap.size + 1, k + 1, none⟩ (u8v r) = putRow u8v X (w.heap.size + 1) 0 ((Ec.cm3 acc M o0 k).setIfInBounds (k + 1) r)) := by
                have := W_set0 X V5 _ _ HQ5.out HV5 0 (k + 1) r (by omega)
                exact this
              clear hr hy
              go_wp2_with (fail)
              go_roundw
              case rel =>
                refine ⟨k + 1, by omega, by go_num, ?_⟩
                rw [HN.out, ← HS5.out]
              case measure => simp [intOf]; omega
            · have hkd : k = n - 1 := by omega
              have HK : Hid (Ec.cmod F a b d = Ec.cm3 acc M o0 k) := by show _ = _; rw [HC.out, hkd]
              have HBV : Hid (Below w.heap.size w V5) := by
                refine ⟨?_, ?_, ?_, ?_, fun k hk => ?_⟩
                · rw [← HBX.out.os, ← HQ5.out]; rfl
                · rw [← HBX.out.tape, ← HQ5.out]; rfl
                · rw [← HBX.out.output, ← HQ5.out]; rfl
                · have := HBX.out.size; rw [← HQ5.out]; simpa using this
                · rw [← HBX.out.block k hk, ← HQ5.out]
                  simp only [putRow, mapBlock, Array.getElem?_modify]
                  rw [if_neg (by omega)]
              have HZ5 : Hid (V5.heap.size = w.heap.size + 2) := by show _ = _; rw [← HQ5.out]; simpa using HXS.out
              clear hkd
              go_wp2_with (fail)
              go_ret
              refine ⟨rfl, fun j hj => ?_, by rw [HZ5.out]; omega, HBV.out⟩
              rw [HK.out]
              exact (HV5 j (by omega)).1
#print axioms cmodel_any
end Go.Proofs.YbulkbjhgDoor
