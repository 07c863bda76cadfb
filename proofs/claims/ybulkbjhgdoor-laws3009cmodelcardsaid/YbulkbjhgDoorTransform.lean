import Derived.Test.YbulkbjhgDoorTrade
import Derived.Sort.WalkC
namespace Go.Proofs.YbulkbjhgDoor
open Go.RowKit Go.Sort

/-- WHAT THE WALKS OVER A KEY AND A MESSAGE LEAN ON: the key's cells, ibox's cells, the message's cells, and that the message lies in a block of its own. -/
structure Env (w : World) (kb ko kl mb mo : Nat) (K I : Nat → UInt8) (d : Array UInt8) : Prop where
  key : ∀ j, j < kl → w.cell? ⟨kb, ko + j, none⟩ = some (.int .u8 (K j).toNat)
  box : ∀ j, j < 256 → w.cell? ⟨2, j, none⟩ = some (.int .u8 (I j).toNat)
  row : Holds u8v w mb mo d
  kbm : kb ≠ mb
  ibm : (2 : Nat) ≠ mb
  l1 : 1 ≤ kl
  l2 : kl ≤ 1024
  n1 : 1 ≤ d.size
  n2 : d.size ≤ 1024

theorem Env.put {w : World} {kb ko kl mb mo : Nat} {K I : Nat → UInt8} {d : Array UInt8} (E : Env w kb ko kl mb mo K I d) (d' : Array UInt8) (hs : d'.size = d.size) :
    Env (putRow u8v w mb mo d') kb ko kl mb mo K I d' where
  key j hj := by rw [cell?_putRow_other _ _ _ _ _ _ (.inl E.kbm)]; exact E.key j hj
  box j hj := by rw [cell?_putRow_other _ _ _ _ _ _ (.inl E.ibm)]; exact E.box j hj
  row := holds_putRow _ _ _ _ _ _ E.row hs
  kbm := E.kbm
  ibm := E.ibm
  l1 := E.l1
  l2 := E.l2
  n1 := by rw [hs]; exact E.n1
  n2 := by rw [hs]; exact E.n2

theorem W_set (V : World) (mb mo : Nat) (d : Array UInt8) (hH : Holds u8v V mb mo d) (n i : Nat) (r : UInt8) (hi : i < d.size) :
    (V.drewN n).setCell ⟨mb, mo + i, none⟩ (u8v r) = (putRow u8v V mb mo (d.setIfInBounds i r)).drewN n := by
  have h := putRow_set u8v V mb mo d i r hi
  rw [putRow_self u8v V mb mo d hH] at h
  show (V.setCell ⟨mb, mo + i, none⟩ (u8v r)).drewN n = _
  rw [h]

theorem W_put (w V : World) (mb mo : Nat) (d d' : Array UInt8) (hV : putRow u8v w mb mo d = V) (hs : d'.size = d.size) (n : Nat) :
    putRow u8v (V.drewN n) mb mo d' = (putRow u8v w mb mo d').drewN n := by
  rw [← hV]
  show (putRow u8v (putRow u8v w mb mo d) mb mo d').drewN n = _
  rw [putRow_putRow _ _ _ _ _ _ hs]

theorem W_swap (w V : World) (mb mo : Nat) (d : Array UInt8) (hV : putRow u8v w mb mo d = V) (n i j : Nat) (hi : i < d.size) (hj : j < d.size) :
    ((V.drewN n).setCell ⟨mb, mo + i, none⟩ (u8v d[j]!)).setCell ⟨mb, mo + j, none⟩ (u8v d[i]!) = (putRow u8v w mb mo (Ec.swap d i j)).drewN n := by
  subst hV
  exact congrArg (fun v : World => v.drewN n) (putRow_swp u8v w mb mo d i j hi hj)

theorem tradeBits_at (kb ko kl kc mb mo mc i sz : Nat) (K I : Nat → UInt8) (d : Array UInt8) (a : UInt8) (w V : World) (n : Nat) (hV : putRow u8v w mb mo d = V) (E : Env V kb ko kl mb mo K I d) (hi1 : 1 ≤ i) (hid : i < d.size) (hsz : d.size = sz)
   (F : UInt8 → UInt8) (hF : Ec.et I K kl = F) (d2 : Array UInt8) (hd2 : Ec.trade F d i a = d2) :
   Calls Ybad.prog 24 #[.slice (some ⟨kb, ko, none⟩) kl kc, .slice (some ⟨mb, mo, none⟩) sz mc, .int .i64 i, .int .u8 a.toNat] (V.drewN n) fun e w' =>
     e = .returned (.tuple #[]) ∧ ∃ n, w' = (putRow u8v w mb mo d2).drewN n := by
  subst hsz hF hd2
  refine (tradeBits_any kb ko kl kc mb mo mc i K I d a (V.drewN n) E.l1 E.l2 hi1 hid E.n2 E.key E.box E.row).mono ?_
  rintro e w' ⟨rfl, m, rfl⟩
  rw [W_put w V mb mo d _ hV (Ec.size_trade _ _ _ _)]
  exact ⟨rfl, _, World.drewN_drewN _ _ _⟩

set_option maxRecDepth 100000 in
set_option maxHeartbeats 1000000 in
theorem transform_any (kb ko kl kc mb mo mc : Nat) (K I : Nat → UInt8) (d : Array UInt8) (a b : UInt8) (w : World) (E : Env w kb ko kl mb mo K I d) :
   Calls Ybad.prog 12 #[.slice (some ⟨kb, ko, none⟩) kl kc, .slice (some ⟨mb, mo, none⟩) d.size mc, .int .u8 a.toNat, .int .u8 b.toNat] w fun e w' =>
     e = .returned (.tuple #[]) ∧ ∃ n, w' = (putRow u8v w mb mo (Ec.transform (Ec.et I K kl) a b d)).drewN n := by
  have hn1 := E.n1
  have hn2 := E.n2
  obtain ⟨F, hF⟩ : ∃ F, Ec.et I K kl = F := ⟨_, rfl⟩
  have HF : Hid (Ec.et I K kl = F) := hF
  rw [hF]
  clear hF
  go_enter Ybad.func12, Ybad.ntmps12
  go_wp2
  go_loopw [2, 17] (fun va vi wr => ∃ k n : Nat, k ≤ d.size ∧ vi = .int .i64 k ∧ va = .int .u8 (Ec.rotrN (k - 1) a).toNat ∧ wr = (putRow u8v w mb mo (Ec.tr1 F b a d k)).drewN n) (fun _ vi _ => d.size - (intOf vi).toNat)
  case atStart => exact ⟨0, 0, by omega, rfl, rfl, (putRow_self _ _ _ _ _ E.row).symm⟩
  case round =>
    obtain ⟨k, n, hk, rfl, rfl, rfl⟩ := hrel
    have E1 := E.put (Ec.tr1 F b a d k) (Ec.size_tr1 _ _ _ _ _)
    generalize hV : putRow u8v w mb mo (Ec.tr1 F b a d k) = V at *
    have HV : Hid (putRow u8v w mb mo (Ec.tr1 F b a d k) = V) := hV
    clear hV
    by_cases hlt : k < d.size
    · obtain ⟨x, hx⟩ : ∃ x, (Ec.tr1 F b a d k)[k]! = x := ⟨_, rfl⟩
      have hsz := Ec.size_tr1 F b a d k
      have c0 : V.cell? ⟨mb, mo + k, none⟩ = some (.int .u8 x.toNat) := by rw [(E1.row k (by omega)).1, hx]
      have f0 : V.frozen? ⟨mb, mo + k, none⟩ = false := (E1.row k (by omega)).2
      have HX : Hid ((Ec.tr1 F b a d k)[k]! = x) := hx
      have HS : Hid ((Ec.tr1 F b a d k).size = d.size) := hsz
      clear hx hsz
      generalize ha0 : Ec.rotrN (k - 1) a = a0
      obtain ⟨a1, ha1⟩ : ∃ a1, Ec.rotrN k a = a1 := ⟨_, rfl⟩
      obtain ⟨z, hz⟩ : ∃ z, x ^^^ a1 = z := ⟨_, rfl⟩
      obtain ⟨e, he⟩ : ∃ e, F z = e := ⟨_, rfl⟩
      obtain ⟨r, hr⟩ : ∃ r, b ^^^ e = r := ⟨_, rfl⟩
      have bx := xor_int x a1
      have br := xor_int b e
      rw [hz] at bx
      rw [hr] at br
      obtain ⟨d1, hd1⟩ : ∃ d1, (Ec.tr1 F b a d k).setIfInBounds k r = d1 := ⟨_, rfl⟩
      have hs1 : d1.size = d.size := by rw [← hd1]; simpa using HS.out
      have hset : ∀ n, (V.drewN n).setCell ⟨mb, mo + k, none⟩ (u8v r) = (putRow u8v w mb mo d1).drewN n := by
        intro n
        rw [W_set V mb mo _ E1.row n k r (by rw [HS.out]; exact hlt), hd1, ← HV.out, putRow_putRow _ _ _ _ _ _ (by rw [hs1, HS.out])]
      have HSET : Hid (∀ n, (V.drewN n).setCell ⟨mb, mo + k, none⟩ (u8v r) = (putRow u8v w mb mo d1).drewN n) := hset
      have HE : Hid (F z = e) := he
      have HD1 : Hid ((Ec.tr1 F b a d k).setIfInBounds k (b ^^^ F ((Ec.tr1 F b a d k)[k]! ^^^ Ec.rotrN k a)) = d1) := by show _ = _; rw [ha1, HX.out, hz, he, hr, hd1]
      have HA0 : Hid (Ec.rotrN (k - 1) a = a0) := ha0
      have HA1 : Hid (Ec.rotrN k a = a1) := ha1
      clear hset hz he hr hd1 ha0 ha1
      by_cases hk0 : (k : Int) ≤ 0
      · obtain rfl : a0 = a1 := by rw [← HA0.out, ← HA1.out]; congr 1; omega
        go_wp2_with (fail)
        refine (etbox_any kb ko kl kc K I z (V.drewN n) E.l1 E.l2 E1.key E1.box).mono ?_
        rw [HF.out, HE.out]
        rintro e w' ⟨rfl, m, rfl⟩
        go_wp2_with (fail)
        go_roundw
        case rel =>
          refine ⟨k + 1, n + m, by omega, by go_num, by rw [Nat.add_sub_cancel, HA1.out], ?_⟩
          rw [HSET.out (n + m), Ec.tr1, Ec.roundT, HD1.out]
          simp only [show ¬ 0 < k by omega, show ¬ 1 < k by omega, if_false]
        case measure => simp [intOf]; omega
      · have E2 := E.put d1 hs1
        generalize hV2 : putRow u8v w mb mo d1 = V2 at *
        have HV2 : Hid (putRow u8v w mb mo d1 = V2) := hV2
        clear hV2
        go_wp2_with (fail)
        refine (rot_any a0 1 (-1) (V.drewN n) (by omega) rfl).mono ?_
        rw [show Ec.rotrN 1 a0 = a1 by rw [← HA1.out, ← HA0.out]; obtain ⟨q, rfl⟩ : ∃ q, k = q + 1 := ⟨k - 1, by omega⟩; rfl]
        rintro _ _ ⟨rfl, rfl⟩
        go_wp2_with (fail)
        refine (etbox_any kb ko kl kc K I z (V.drewN n) E.l1 E.l2 E1.key E1.box).mono ?_
        rw [HF.out, HE.out]
        rintro e w' ⟨rfl, m, rfl⟩
        go_wp2_with (fail)
        rw [HSET.out (n + m)]
        obtain ⟨d2, hd2⟩ : ∃ d2, Ec.trade F d1 k a1 = d2 := ⟨_, rfl⟩
        have hs2 : d2.size = d.size := by rw [← hd2, Ec.size_trade, hs1]
        refine (tradeBits_at kb ko kl kc mb mo mc k d.size K I d1 a1 w V2 (n + m) HV2.out E2 (by omega) (by omega) hs1 F HF.out d2 hd2).mono ?_
        have HD2 : Hid (Ec.trade F d1 k a1 = d2) := hd2
        clear hd2
        rintro _ _ ⟨rfl, m2, rfl⟩
        have E3 := E.put d2 hs2
        generalize hV3 : putRow u8v w mb mo d2 = V3 at *
        have HV3 : Hid (putRow u8v w mb mo d2 = V3) := hV3
        clear hV3
        by_cases hk1 : (k : Int) ≤ 1
        · go_wp2_with (fail)
          go_roundw
          case rel =>
            refine ⟨k + 1, m2, by omega, by go_num, by rw [Nat.add_sub_cancel, HA1.out], ?_⟩
            rw [← HV3.out, Ec.tr1, Ec.roundT, HD1.out, HA1.out]
            simp only [show 0 < k by omega, show ¬ 1 < k by omega, if_false, if_true]
            rw [HD2.out]
          case measure => simp [intOf]; omega
        · obtain ⟨y, hy⟩ : ∃ y, d2[k]! = y := ⟨_, rfl⟩
          have c2 : V3.cell? ⟨mb, mo + k, none⟩ = some (.int .u8 y.toNat) := by rw [(E3.row k (by omega)).1, hy]
          have HY : Hid (d2[k]! = y) := hy
          clear hy c0 f0 E1 E2 bx br
          go_wp2_with (fail)
          obtain ⟨j, hj⟩ : ∃ j, Ec.kidx F k y a1 = j := ⟨_, rfl⟩
          have hjk : j < k := by rw [← hj]; exact Ec.kidx_lt _ _ _ _ (by omega)
          refine (keyedIndex_any kb ko kl kc k K I _ _ y a1 rfl rfl (V3.drewN m2) E.l1 E.l2 (by omega) E3.key E3.box).mono ?_
          rw [HF.out, hj]
          have HJ : Hid (Ec.kidx F k y a1 = j) := hj
          clear hj
          rintro _ _ ⟨rfl, m3, rfl⟩
          obtain ⟨G, hG⟩ : ∃ G : Nat → UInt8, ∀ t, G t = d2[t]! := ⟨fun t => d2[t]!, fun _ => rfl⟩
          have hcw : ∀ t, t < d.size → V3.cell? ⟨mb, mo + t, none⟩ = some (.int .u8 (G t).toNat) := fun t ht => by rw [hG]; exact (E3.row t (by omega)).1
          have hfw : ∀ t, t < d.size → V3.frozen? ⟨mb, mo + t, none⟩ = false := fun t ht => (E3.row t (by omega)).2
          have HG : Hid (∀ t, G t = d2[t]!) := hG
          clear hG c2
          obtain ⟨v', hv'⟩ := cell?_setCell_some (w := V3.drewN (m2 + m3 + 1)) (p := ⟨mb, mo + j, none⟩) (x := .int .u8 (G (k - 1)).toNat) (q := ⟨mb, mo + (k - 1), none⟩) (v := .int .u8 (G (k - 1)).toNat) (hcw (k - 1) (by omega))
          go_wp2
          go_region
          go_wp2
          go_roundw
          case rel =>
            refine ⟨k + 1, m2 + m3 + 1, by omega, by go_num, by rw [Nat.add_sub_cancel, HA1.out], ?_⟩
            rw [HG.out, HG.out, W_swap w V3 mb mo d2 HV3.out _ j (k - 1) (by omega) (by omega), Ec.tr1, Ec.roundT, HD1.out, HA1.out]
            simp only [show 0 < k by omega, show 1 < k by omega, if_true]
            rw [HD2.out, HY.out, HJ.out]
          case measure => simp [intOf]; omega
    · obtain rfl : k = d.size := by omega
      obtain ⟨a1, ha1⟩ : ∃ a1, Ec.rotrN (d.size - 1) a = a1 := ⟨_, rfl⟩
      rw [ha1]
      have HA1 : Hid (Ec.rotrN (d.size - 1) a = a1) := ha1
      clear ha1
      obtain ⟨d1, hd1⟩ : ∃ d1, Ec.tr1 F b a d d.size = d1 := ⟨_, rfl⟩
      rw [hd1] at E1 HV
      have hs1 : d1.size = d.size := by rw [← hd1, Ec.size_tr1]
      have HD1 : Hid (Ec.tr1 F b a d d.size = d1) := hd1
      clear hd1
      go_wp2_with (fail)
      obtain ⟨j, hj⟩ : ∃ j, Ec.kidx F d.size 0x37 a1 = j := ⟨_, rfl⟩
      have hjk : j < d.size := by rw [← hj]; exact Ec.kidx_lt _ _ _ _ (by omega)
      refine (keyedIndex_any kb ko kl kc d.size K I _ _ 0x37 a1 rfl rfl (V.drewN n) E.l1 E.l2 (by omega) E1.key E1.box).mono ?_
      rw [HF.out, hj]
      have HJ : Hid (Ec.kidx F d.size 0x37 a1 = j) := hj
      clear hj
      rintro _ _ ⟨rfl, m3, rfl⟩
      obtain ⟨G, hG⟩ : ∃ G : Nat → UInt8, ∀ t, G t = d1[t]! := ⟨fun t => d1[t]!, fun _ => rfl⟩
      have hcw : ∀ t, t < d.size → V.cell? ⟨mb, mo + t, none⟩ = some (.int .u8 (G t).toNat) := fun t ht => by rw [hG]; exact (E1.row t (by omega)).1
      have hfw : ∀ t, t < d.size → V.frozen? ⟨mb, mo + t, none⟩ = false := fun t ht => (E1.row t (by omega)).2
      have HG : Hid (∀ t, G t = d1[t]!) := hG
      clear hG
      obtain ⟨v', hv'⟩ := cell?_setCell_some (w := V.drewN (n + m3 + 1)) (p := ⟨mb, mo + j, none⟩) (x := .int .u8 (G (d.size - 1)).toNat) (q := ⟨mb, mo + (d.size - 1), none⟩) (v := .int .u8 (G (d.size - 1)).toNat) (hcw (d.size - 1) (by omega))
      go_wp2
      go_region
      rw [HG.out, HG.out, W_swap w V mb mo d1 HV.out _ j (d.size - 1) (by omega) (by omega)]
      obtain ⟨d2, hd2⟩ : ∃ d2, Ec.swap d1 j (d.size - 1) = d2 := ⟨_, rfl⟩
      have hs2 : d2.size = d.size := by rw [← hd2, Ec.size_swap, hs1]
      have HD2 : Hid (Ec.mid F (Ec.rotrN (d.size - 1) a) (Ec.tr1 F b a d d.size) = d2) := by show _ = _; rw [HD1.out, HA1.out, Ec.mid, hs1, HJ.out, hd2]
      rw [hd2]
      clear hd2 hv' hcw hfw HG E1 HV HJ HD1 hs1 HA1
      have E2 := E.put d2 hs2
      generalize hV2 : putRow u8v w mb mo d2 = V2 at *
      have HV2 : Hid (putRow u8v w mb mo d2 = V2) := hV2
      obtain ⟨x, hx⟩ : ∃ x, d2[0]! = x := ⟨_, rfl⟩
      have c0 : V2.cell? ⟨mb, mo, none⟩ = some (.int .u8 x.toNat) := by rw [← hx]; exact (E2.row 0 (by omega)).1
      have HX : Hid (d2[0]! = x) := hx
      clear hV2 hx
      go_wp2_with (fail)
      refine (etbox_any kb ko kl kc K I x _ E.l1 E.l2 (by exact E2.key) (by exact E2.box)).mono ?_
      rw [HF.out]
      rintro _ _ ⟨rfl, m4, rfl⟩
      go_wp2_with (fail)
      obtain ⟨acc0, hacc⟩ : ∃ acc0, F x = acc0 := ⟨_, rfl⟩
      rw [hacc]
      have HACC : Hid (F d2[0]! = acc0) := by show _ = _; rw [HX.out, hacc]
      clear hacc c0 HX hlt
      go_loopw [12, 13] (fun va vi wr => ∃ k n : Nat, k + 1 ≤ d.size ∧ vi = .int .i64 ((k : Int) + 1) ∧ va = .int .u8 (Ec.tr2 F d2 acc0 k).2.toNat ∧ wr = (putRow u8v w mb mo (Ec.tr2 F d2 acc0 k).1).drewN n) (fun _ vi _ => d.size - (intOf vi).toNat)
      case atStart => exact ⟨0, _, by omega, rfl, rfl, by rw [Ec.tr2, HV2.out]⟩
      case round =>
        obtain ⟨k, n2, hk, rfl, rfl, rfl⟩ := hrel
        have hs3 : (Ec.tr2 F d2 acc0 k).1.size = d.size := by rw [Ec.size_tr2, hs2]
        have E3 := E.put (Ec.tr2 F d2 acc0 k).1 hs3
        clear E2 HV2
        generalize hV3 : putRow u8v w mb mo (Ec.tr2 F d2 acc0 k).1 = V3 at *
        have HV3 : Hid (putRow u8v w mb mo (Ec.tr2 F d2 acc0 k).1 = V3) := hV3
        obtain ⟨acc, ha⟩ : ∃ acc, (Ec.tr2 F d2 acc0 k).2 = acc := ⟨_, rfl⟩
        rw [ha]
        have HA : Hid ((Ec.tr2 F d2 acc0 k).2 = acc) := ha
        clear hV3 ha
        by_cases hlt : k + 1 < d.size
        · obtain ⟨y, hy⟩ : ∃ y, (Ec.tr2 F d2 acc0 k).1[k + 1]! = y := ⟨_, rfl⟩
          have c3 : V3.cell? ⟨mb, mo + (k + 1), none⟩ = some (.int .u8 y.toNat) := by rw [← hy]; exact (E3.row (k + 1) (by omega)).1
          have f3 : V3.frozen? ⟨mb, mo + (k + 1), none⟩ = false := (E3.row (k + 1) (by omega)).2
          obtain ⟨e, he⟩ : ∃ e, F y = e := ⟨_, rfl⟩
          have bx := xor_int acc e
          obtain ⟨acc', ha'⟩ : ∃ q, acc ^^^ e = q := ⟨_, rfl⟩
          rw [ha'] at bx
          have HN : Hid (Ec.tr2 F d2 acc0 (k + 1) = ((Ec.tr2 F d2 acc0 k).1.setIfInBounds (k + 1) e, acc')) := by show _ = _; rw [Ec.tr2, hy, he, HA.out, ha']
          have HE : Hid (F y = e) := he
          clear ha' he hy
          go_wp2_with (fail)
          refine (etbox_any kb ko kl kc K I y _ E.l1 E.l2 (by exact E3.key) (by exact E3.box)).mono ?_
          rw [HF.out, HE.out]
          rintro _ _ ⟨rfl, m5, rfl⟩
          go_wp2_with (fail)
          go_roundw
          case rel =>
            refine ⟨k + 1, n2 + m5, by omega, by go_num, by rw [HN.out], ?_⟩
            rw [HN.out, W_set V3 mb mo _ E3.row _ _ _ (by omega), ← HV3.out, putRow_putRow _ _ _ _ _ _ (by simp)]
          case measure => simp [intOf]; omega
        · have hkd : k = d.size - 1 := by omega
          have f3 : V3.frozen? ⟨mb, mo, none⟩ = false := (E3.row 0 (by omega)).2
          obtain ⟨v0, c3⟩ : ∃ v0, V3.cell? ⟨mb, mo, none⟩ = some v0 := ⟨_, (E3.row 0 (by omega)).1⟩
          obtain ⟨d3, hd3⟩ : ∃ d3, (Ec.tr2 F d2 acc0 k).1.setIfInBounds 0 acc = d3 := ⟨_, rfl⟩
          have HD3 : Hid (Ec.transform F a b d = Ec.tr3 acc d3 (d.size - 1)) := by
            show _ = _
            unfold Ec.transform
            simp only
            rw [HD2.out, HACC.out, ← hkd, HA.out, hd3]
          have hs4 : d3.size = d.size := by rw [← hd3]; simpa using hs3
          have hset : ∀ n, (V3.drewN n).setCell ⟨mb, mo, none⟩ (u8v acc) = (putRow u8v w mb mo d3).drewN n := by
            intro n
            have := W_set V3 mb mo _ E3.row n 0 acc (by omega)
            rw [Nat.add_zero] at this
            rw [this, hd3, ← HV3.out, putRow_putRow _ _ _ _ _ _ (by rw [hs4, hs3])]
          have HSET : Hid (∀ n, (V3.drewN n).setCell ⟨mb, mo, none⟩ (u8v acc) = (putRow u8v w mb mo d3).drewN n) := hset
          clear hset hd3 hkd HA HACC HD2
          go_wp2_with (fail)
          go_loopw [14] (fun vi wr => ∃ k n : Nat, k + 1 ≤ d.size ∧ vi = .int .i64 ((k : Int) + 1) ∧ wr = (putRow u8v w mb mo (Ec.tr3 acc d3 k)).drewN n) (fun vi _ => d.size - (intOf vi).toNat)
          case atStart => exact ⟨0, _, by omega, rfl, HSET.out _⟩
          case round =>
            clear c3 f3 E3
            obtain ⟨k, n3, hk, rfl, rfl⟩ := hrel
            have hs5 : (Ec.tr3 acc d3 k).size = d.size := by rw [Ec.size_tr3, hs4]
            have E4 := E.put (Ec.tr3 acc d3 k) hs5
            generalize hV4 : putRow u8v w mb mo (Ec.tr3 acc d3 k) = V4 at *
            have HV4 : Hid (putRow u8v w mb mo (Ec.tr3 acc d3 k) = V4) := hV4
            clear hV4
            by_cases hlt2 : k + 1 < d.size
            · obtain ⟨y, hy⟩ : ∃ y, (Ec.tr3 acc d3 k)[k + 1]! = y := ⟨_, rfl⟩
              have c3 : V4.cell? ⟨mb, mo + (k + 1), none⟩ = some (.int .u8 y.toNat) := by rw [← hy]; exact (E4.row (k + 1) (by omega)).1
              have f3 : V4.frozen? ⟨mb, mo + (k + 1), none⟩ = false := (E4.row (k + 1) (by omega)).2
              have bx := xor_int y acc
              obtain ⟨r, hr⟩ : ∃ q, y ^^^ acc = q := ⟨_, rfl⟩
              rw [hr] at bx
              have HN : Hid (Ec.tr3 acc d3 (k + 1) = (Ec.tr3 acc d3 k).setIfInBounds (k + 1) r) := by show _ = _; rw [Ec.tr3, hy, hr]
              clear hr hy
              go_wp2_with (fail)
              go_roundw
              case rel =>
                refine ⟨k + 1, n3, by omega, by go_num, ?_⟩
                rw [HN.out, W_set V4 mb mo _ E4.row _ _ _ (by omega), ← HV4.out, putRow_putRow _ _ _ _ _ _ (by simp)]
              case measure => simp [intOf]; omega
            · have hkd : k = d.size - 1 := by omega
              have HK : Hid (Ec.transform F a b d = Ec.tr3 acc d3 k) := by show _ = _; rw [HD3.out, hkd]
              clear hkd
              go_wp2_with (fail)
              go_end0
              exact ⟨rfl, n3, by rw [HK.out, HV4.out]⟩
#print axioms transform_any
end Go.Proofs.YbulkbjhgDoor
