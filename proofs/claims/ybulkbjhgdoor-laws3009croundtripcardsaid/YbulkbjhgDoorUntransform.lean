/-
  THE WALK OF cave.untransform (14).
-/
import Derived.Test.YbulkbjhgDoorTransform
import Derived.Test.YbulkbjhgDoorPlainU
namespace Go.Proofs.YbulkbjhgDoor
open Go.RowKit Go.Sort

set_option maxRecDepth 100000 in
set_option maxHeartbeats 1000000 in
theorem untransform_any (kb ko kl kc mb mo mc : Nat) (K I : Nat → UInt8) (d : Array UInt8) (a b : UInt8) (w : World) (E : Env w kb ko kl mb mo K I d) :
   Calls Ybad.prog 14 #[.slice (some ⟨kb, ko, none⟩) kl kc, .slice (some ⟨mb, mo, none⟩) d.size mc, .int .u8 a.toNat, .int .u8 b.toNat] w fun e w' =>
     e = .returned (.tuple #[]) ∧ ∃ n, w' = (putRow u8v w mb mo (Ec.untransform (Ec.et I K kl) a b d)).drewN n := by
  have hn1 := E.n1
  have hn2 := E.n2
  obtain ⟨F, hF⟩ : ∃ F, Ec.et I K kl = F := ⟨_, rfl⟩
  have HF : Hid (Ec.et I K kl = F) := hF
  rw [hF]
  clear hF
  go_enter Ybad.func14, Ybad.ntmps14
  go_wp2_with (fail)
  refine (rot_any a ((d.size - 1) % 8) _ w (by omega) (by omega)).mono ?_
  obtain ⟨a1, ha1⟩ : ∃ a1, Ec.rotrN ((d.size - 1) % 8) a = a1 := ⟨_, rfl⟩
  rw [ha1]
  have HA1 : Hid (Ec.rotrN ((d.size - 1) % 8) a = a1) := ha1
  clear ha1
  rintro _ w2 ⟨rfl, hw2⟩
  subst w2
  go_wp2_with (fail)
  go_loopw [9] (fun vi wr => ∃ k n : Nat, k + 1 ≤ d.size ∧ vi = .int .i64 ((k : Int) + 1) ∧ wr = (putRow u8v w mb mo (Ec.un1 d k)).drewN n) (fun vi _ => d.size - (intOf vi).toNat)
  case atStart => exact ⟨0, 0, by omega, rfl, (putRow_self _ _ _ _ _ E.row).symm⟩
  case round =>
    obtain ⟨k, n, hk, rfl, rfl⟩ := hrel
    have hs1 : (Ec.un1 d k).size = d.size := Ec.size_un1 _ _
    have E1 := E.put (Ec.un1 d k) hs1
    generalize hV : putRow u8v w mb mo (Ec.un1 d k) = V at *
    have HV : Hid (putRow u8v w mb mo (Ec.un1 d k) = V) := hV
    clear hV
    by_cases hlt : k + 1 < d.size
    · obtain ⟨y, hy⟩ : ∃ y, (Ec.un1 d k)[k + 1]! = y := ⟨_, rfl⟩
      obtain ⟨y0, hy0⟩ : ∃ y, (Ec.un1 d k)[0]! = y := ⟨_, rfl⟩
      have c3 : V.cell? ⟨mb, mo + (k + 1), none⟩ = some (.int .u8 y.toNat) := by rw [← hy]; exact (E1.row (k + 1) (by omega)).1
      have f3 : V.frozen? ⟨mb, mo + (k + 1), none⟩ = false := (E1.row (k + 1) (by omega)).2
      have c0 : V.cell? ⟨mb, mo, none⟩ = some (.int .u8 y0.toNat) := by rw [← hy0]; exact (E1.row 0 (by omega)).1
      have bx := xor_int y y0
      obtain ⟨r, hr⟩ : ∃ q, y ^^^ y0 = q := ⟨_, rfl⟩
      rw [hr] at bx
      have HN : Hid (Ec.un1 d (k + 1) = (Ec.un1 d k).setIfInBounds (k + 1) r) := by show _ = _; rw [Ec.un1, hy, hy0, hr]
      clear hr hy hy0
      go_wp2_with (fail)
      go_region
      go_wp2_with (fail)
      go_roundw
      case rel =>
        refine ⟨k + 1, n + 1, by omega, by go_num, ?_⟩
        rw [HN.out, W_set V mb mo _ E1.row _ _ _ (by omega), ← HV.out, putRow_putRow _ _ _ _ _ _ (by simp)]
      case measure => simp [intOf]; omega
    · obtain rfl : k = d.size - 1 := by omega
      obtain ⟨d1, hd1⟩ : ∃ d1, Ec.un1 d (d.size - 1) = d1 := ⟨_, rfl⟩
      have HD1 : Hid (Ec.un1 d (d.size - 1) = d1) := hd1
      rw [hd1] at hs1 E1 HV
      clear hd1
      go_wp2_with (fail)
      go_loopw [10] (fun vi wr => ∃ k n : Nat, k + 1 ≤ d.size ∧ vi = .int .i64 ((k : Int) + 1) ∧ wr = (putRow u8v w mb mo (Ec.un2 F d1 k)).drewN n) (fun vi _ => d.size - (intOf vi).toNat)
      case atStart => exact ⟨0, _, by omega, rfl, by rw [Ec.un2, HV.out]⟩
      case round =>
        clear E1
        obtain ⟨k, n2, hk, rfl, rfl⟩ := hrel
        have hs2 : (Ec.un2 F d1 k).size = d.size := by rw [Ec.size_un2, hs1]
        have E2 := E.put (Ec.un2 F d1 k) hs2
        generalize hV2 : putRow u8v w mb mo (Ec.un2 F d1 k) = V2 at *
        have HV2 : Hid (putRow u8v w mb mo (Ec.un2 F d1 k) = V2) := hV2
        clear hV2
        by_cases hlt2 : k + 1 < d.size
        · obtain ⟨y, hy⟩ : ∃ y, (Ec.un2 F d1 k)[k + 1]! = y := ⟨_, rfl⟩
          obtain ⟨y0, hy0⟩ : ∃ y, (Ec.un2 F d1 k)[0]! = y := ⟨_, rfl⟩
          have c3 : V2.cell? ⟨mb, mo + (k + 1), none⟩ = some (.int .u8 y.toNat) := by rw [← hy]; exact (E2.row (k + 1) (by omega)).1
          have c0 : V2.cell? ⟨mb, mo, none⟩ = some (.int .u8 y0.toNat) := by rw [← hy0]; exact (E2.row 0 (by omega)).1
          have f0 : V2.frozen? ⟨mb, mo, none⟩ = false := (E2.row 0 (by omega)).2
          have bx := xor_int y0 y
          obtain ⟨r, hr⟩ : ∃ q, y0 ^^^ y = q := ⟨_, rfl⟩
          rw [hr] at bx
          obtain ⟨e, he⟩ : ∃ e, F y = e := ⟨_, rfl⟩
          obtain ⟨d2, hd2⟩ : ∃ d2, (Ec.un2 F d1 k).setIfInBounds 0 r = d2 := ⟨_, rfl⟩
          have HN : Hid (Ec.un2 F d1 (k + 1) = d2.setIfInBounds (k + 1) e) := by show _ = _; rw [Ec.un2, hy, hy0, hr, he, hd2]
          have HE : Hid (F y = e) := he
          have hs3 : d2.size = d.size := by rw [← hd2]; simpa using hs2
          have hset : ∀ n, (V2.drewN n).setCell ⟨mb, mo, none⟩ (u8v r) = (putRow u8v w mb mo d2).drewN n := by
            intro n
            have := W_set V2 mb mo _ E2.row n 0 r (by omega)
            rw [Nat.add_zero] at this
            rw [this, hd2, ← HV2.out, putRow_putRow _ _ _ _ _ _ (by rw [hs3, hs2])]
          have HSET : Hid (∀ n, (V2.drewN n).setCell ⟨mb, mo, none⟩ (u8v r) = (putRow u8v w mb mo d2).drewN n) := hset
          have HY : Hid (d2[k + 1]! = y) := by show _ = _; rw [← hd2, getElem!_set_other _ _ _ _ (by omega), hy]
          clear hset hd2 he hr hy hy0
          go_wp2_with (fail)
          go_region
          rw [HSET.out]
          have E3 := E.put d2 hs3
          generalize hV3 : putRow u8v w mb mo d2 = V3 at *
          have HV3 : Hid (putRow u8v w mb mo d2 = V3) := hV3
          clear hV3 c3 c0 f0 E2 bx
          have c4 : V3.cell? ⟨mb, mo + (k + 1), none⟩ = some (.int .u8 y.toNat) := by rw [← HY.out]; exact (E3.row (k + 1) (by omega)).1
          have f4 : V3.frozen? ⟨mb, mo + (k + 1), none⟩ = false := (E3.row (k + 1) (by omega)).2
          go_wp2_with (fail)
          refine (etbox_any kb ko kl kc K I y _ E.l1 E.l2 (by exact E3.key) (by exact E3.box)).mono ?_
          rw [HF.out, HE.out]
          rintro _ _ ⟨rfl, m5, rfl⟩
          go_wp2_with (fail)
          go_roundw
          case rel =>
            refine ⟨k + 1, n2 + 1 + m5, by omega, by go_num, ?_⟩
            rw [HN.out, W_set V3 mb mo _ E3.row _ _ _ (by omega), ← HV3.out, putRow_putRow _ _ _ _ _ _ (by simp)]
          case measure => simp [intOf]; omega
        · obtain rfl : k = d.size - 1 := by omega
          obtain ⟨d2, hd2⟩ : ∃ d2, Ec.un2 F d1 (d.size - 1) = d2 := ⟨_, rfl⟩
          rw [hd2] at hs2 E2 HV2
          have HD2 : Hid (Ec.un2 F d1 (d.size - 1) = d2) := hd2
          obtain ⟨y, hy⟩ : ∃ y, d2[0]! = y := ⟨_, rfl⟩
          have c0 : V2.cell? ⟨mb, mo, none⟩ = some (.int .u8 y.toNat) := by rw [← hy]; exact (E2.row 0 (by omega)).1
          have f0 : V2.frozen? ⟨mb, mo, none⟩ = false := (E2.row 0 (by omega)).2
          obtain ⟨e, he⟩ : ∃ e, F y = e := ⟨_, rfl⟩
          obtain ⟨d3, hd3⟩ : ∃ d3, d2.setIfInBounds 0 e = d3 := ⟨_, rfl⟩
          have hs3 : d3.size = d.size := by rw [← hd3]; simpa using hs2
          have HE : Hid (F y = e) := he
          have HD3 : Hid (d2.setIfInBounds 0 (F d2[0]!) = d3) := by show _ = _; rw [hy, he, hd3]
          have hset : ∀ n, (V2.drewN n).setCell ⟨mb, mo, none⟩ (u8v e) = (putRow u8v w mb mo d3).drewN n := by
            intro n
            have := W_set V2 mb mo _ E2.row n 0 e (by omega)
            rw [Nat.add_zero] at this
            rw [this, hd3, ← HV2.out, putRow_putRow _ _ _ _ _ _ (by rw [hs3, hs2])]
          have HSET : Hid (∀ n, (V2.drewN n).setCell ⟨mb, mo, none⟩ (u8v e) = (putRow u8v w mb mo d3).drewN n) := hset
          clear hset hd2 hd3 he hy
          go_wp2_with (fail)
          refine (etbox_any kb ko kl kc K I y _ E.l1 E.l2 (by exact E2.key) (by exact E2.box)).mono ?_
          rw [HF.out, HE.out]
          rintro _ _ ⟨rfl, m5, rfl⟩
          go_wp2_with (fail)
          rw [HSET.out]
          have E3 := E.put d3 hs3
          generalize hV3 : putRow u8v w mb mo d3 = V3 at *
          have HV3 : Hid (putRow u8v w mb mo d3 = V3) := hV3
          clear hV3 c0 f0 E2
          obtain ⟨j, hj⟩ : ∃ j, Ec.kidx F d.size 0x37 a1 = j := ⟨_, rfl⟩
          have hjk : j < d.size := by rw [← hj]; exact Ec.kidx_lt _ _ _ _ (by omega)
          refine (keyedIndex_any kb ko kl kc d.size K I _ _ 0x37 a1 rfl rfl _ E.l1 E.l2 (by omega) (by exact E3.key) (by exact E3.box)).mono ?_
          rw [HF.out, hj]
          have HJ : Hid (Ec.kidx F d.size 0x37 a1 = j) := hj
          clear hj
          rintro _ _ ⟨rfl, m6, rfl⟩
          obtain ⟨G, hG⟩ : ∃ G : Nat → UInt8, ∀ t, G t = d3[t]! := ⟨fun t => d3[t]!, fun _ => rfl⟩
          have hcw : ∀ t, t < d.size → V3.cell? ⟨mb, mo + t, none⟩ = some (.int .u8 (G t).toNat) := fun t ht => by rw [hG]; exact (E3.row t (by omega)).1
          have hfw : ∀ t, t < d.size → V3.frozen? ⟨mb, mo + t, none⟩ = false := fun t ht => (E3.row t (by omega)).2
          have HG : Hid (∀ t, G t = d3[t]!) := hG
          clear hG
          obtain ⟨v', hv'⟩ := cell?_setCell_some (w := V3.drewN (n2 + m5 + m6 + 1)) (p := ⟨mb, mo + j, none⟩) (x := .int .u8 (G (d.size - 1)).toNat) (q := ⟨mb, mo + (d.size - 1), none⟩) (v := .int .u8 (G (d.size - 1)).toNat) (hcw (d.size - 1) (by omega))
          go_wp2
          go_region
          rw [HG.out, HG.out, W_swap w V3 mb mo d3 HV3.out _ j (d.size - 1) (by omega) (by omega)]
          obtain ⟨d4, hd4⟩ : ∃ d4, Ec.swap d3 j (d.size - 1) = d4 := ⟨_, rfl⟩
          have hs4 : d4.size = d.size := by rw [← hd4, Ec.size_swap, hs3]
          rw [hd4]
          have HD4 : Hid (Ec.untransform F a b d = Ec.un3 F b d.size a1 d4) := by
            show _ = _
            unfold Ec.untransform Ec.unMid
            simp only
            rw [HA1.out, HD1.out, HD2.out, HD3.out, Ec.mid, hs3, HJ.out, hd4]
          clear hd4 hv' hcw hfw HG E3 HV3 HJ HD1 hs1 HA1 HD2 HD3 HSET HV HV2 HE hs2 hs3 hlt hlt2
          go_wp2_with (fail)
          go_loopw [2, 12] (fun va vi wr => ∃ (k n : Nat) (a2 : UInt8) (dk : Array UInt8), k ≤ d.size ∧ dk.size = d.size ∧ vi = .int .i64 ((k : Int) - 1) ∧ va = .int .u8 a2.toNat ∧ wr = (putRow u8v w mb mo dk).drewN n ∧ Ec.un3 F b k a2 dk = Ec.un3 F b d.size a1 d4) (fun _ vi _ => (intOf vi + 1).toNat)
          case atStart => exact ⟨d.size, _, a1, d4, Nat.le_refl _, hs4, by go_num, rfl, rfl, rfl⟩
          case round =>
            obtain ⟨k, n3, a2, dk, hk, hsk, rfl, rfl, rfl, hrec⟩ := hrel
            have HR : Hid (Ec.un3 F b k a2 dk = Ec.un3 F b d.size a1 d4) := hrec
            clear hrec
            obtain rfl | ⟨i, rfl⟩ : k = 0 ∨ ∃ i, k = i + 1 := by
              cases k with
              | zero => exact .inl rfl
              | succ i => exact .inr ⟨i, rfl⟩
            · have HK : Hid (Ec.untransform F a b d = dk) := by show _ = _; rw [HD4.out, ← HR.out, Ec.un3]
              go_wp2_with (fail)
              go_end0
              exact ⟨rfl, n3, by rw [HK.out]⟩
            · rw [show (((i + 1 : Nat) : Int) - 1) = (i : Int) by omega]
              have E6 := E.put dk hsk
              generalize hV6 : putRow u8v w mb mo dk = V6 at *
              have HV6 : Hid (putRow u8v w mb mo dk = V6) := hV6
              clear hV6
              by_cases hi0 : (i : Int) ≤ 0
              · have hi0' : ¬ (1 : Int) < (i : Int) := by omega
                obtain ⟨y, hy⟩ : ∃ y, dk[i]! = y := ⟨_, rfl⟩
                have ci : V6.cell? ⟨mb, mo + i, none⟩ = some (.int .u8 y.toNat) := by rw [← hy]; exact (E6.row i (by omega)).1
                have fi : V6.frozen? ⟨mb, mo + i, none⟩ = false := (E6.row i (by omega)).2
                obtain ⟨z, hz⟩ : ∃ z, y ^^^ b = z := ⟨_, rfl⟩
                obtain ⟨e, he⟩ : ∃ e, F z = e := ⟨_, rfl⟩
                obtain ⟨r, hr⟩ : ∃ r, a2 ^^^ e = r := ⟨_, rfl⟩
                have bz := xor_int y b
                have br := xor_int a2 e
                rw [hz] at bz
                rw [hr] at br
                have HN : Hid (Ec.roundU F b a2 i dk = dk.setIfInBounds i r) := by
                  show _ = _
                  unfold Ec.roundU
                  simp only [show ¬ 1 < i by omega, show ¬ 0 < i by omega, if_false]
                  rw [hy, hz, he, hr]
                have HE : Hid (F z = e) := he
                clear hy hz he hr
                go_wp2_with (fail)
                refine (etbox_any kb ko kl kc K I z _ E.l1 E.l2 (by exact E6.key) (by exact E6.box)).mono ?_
                rw [HF.out, HE.out]
                rintro _ _ ⟨rfl, m9, rfl⟩
                go_wp2_with (fail)
                refine (rotl_any a2 _).mono ?_
                rintro _ w3 ⟨rfl, hw3⟩
                subst w3
                go_wp2_with (fail)
                go_roundw
                case rel =>
                  refine ⟨i, n3 + m9, Ec.rotl a2, dk.setIfInBounds i r, by omega, by simpa using hsk, by go_num, rfl, ?_, ?_⟩
                  · rw [W_set V6 mb mo _ E6.row _ _ _ (by omega), ← HV6.out, putRow_putRow _ _ _ _ _ _ (by simp)]
                  · rw [← HN.out, ← HR.out, Ec.un3]
                case measure => simp [intOf]
              · by_cases hi1 : (i : Int) ≤ 1
                · obtain ⟨d7, hd7⟩ : ∃ d7, Ec.trade F dk i a2 = d7 := ⟨_, rfl⟩
                  have hs7 : d7.size = d.size := by rw [← hd7, Ec.size_trade, hsk]
                  have HD7 : Hid (Ec.trade F dk i a2 = d7) := hd7
                  clear hd7
                  go_wp2_with (fail)
                  refine (tradeBits_at kb ko kl kc mb mo mc i d.size K I dk a2 w V6 n3 HV6.out E6 (by omega) (by omega) hsk F HF.out d7 HD7.out).mono ?_
                  rintro _ _ ⟨rfl, m7, rfl⟩
                  have E7 := E.put d7 hs7
                  generalize hV7 : putRow u8v w mb mo d7 = V7 at *
                  have HV7 : Hid (putRow u8v w mb mo d7 = V7) := hV7
                  clear hV7 E6
                  obtain ⟨y, hy⟩ : ∃ y, d7[i]! = y := ⟨_, rfl⟩
                  have ci : V7.cell? ⟨mb, mo + i, none⟩ = some (.int .u8 y.toNat) := by rw [← hy]; exact (E7.row i (by omega)).1
                  have fi : V7.frozen? ⟨mb, mo + i, none⟩ = false := (E7.row i (by omega)).2
                  obtain ⟨z, hz⟩ : ∃ z, y ^^^ b = z := ⟨_, rfl⟩
                  obtain ⟨e, he⟩ : ∃ e, F z = e := ⟨_, rfl⟩
                  obtain ⟨r, hr⟩ : ∃ r, a2 ^^^ e = r := ⟨_, rfl⟩
                  have bz := xor_int y b
                  have br := xor_int a2 e
                  rw [hz] at bz
                  rw [hr] at br
                  have HN : Hid (Ec.roundU F b a2 i dk = d7.setIfInBounds i r) := by
                    show _ = _
                    unfold Ec.roundU
                    simp only [show ¬ 1 < i by omega, show 0 < i by omega, if_false, if_true]
                    rw [HD7.out]
                    rw [hy, hz, he, hr]
                  have HE : Hid (F z = e) := he
                  clear hy hz he hr
                  go_wp2_with (fail)
                  refine (etbox_any kb ko kl kc K I z _ E.l1 E.l2 (by exact E7.key) (by exact E7.box)).mono ?_
                  rw [HF.out, HE.out]
                  rintro _ _ ⟨rfl, m9, rfl⟩
                  go_wp2_with (fail)
                  refine (rotl_any a2 _).mono ?_
                  rintro _ w3 ⟨rfl, hw3⟩
                  subst w3
                  go_wp2_with (fail)
                  go_roundw
                  case rel =>
                    refine ⟨i, m7 + m9, Ec.rotl a2, d7.setIfInBounds i r, by omega, by simpa using hs7, by go_num, rfl, ?_, ?_⟩
                    · rw [W_set V7 mb mo _ E7.row _ _ _ (by omega), ← HV7.out, putRow_putRow _ _ _ _ _ _ (by simp)]
                    · rw [← HN.out, ← HR.out, Ec.un3]
                  case measure => simp [intOf]
                · obtain ⟨yi, hyi⟩ : ∃ y, dk[i]! = y := ⟨_, rfl⟩
                  have c6 : V6.cell? ⟨mb, mo + i, none⟩ = some (.int .u8 yi.toNat) := by rw [← hyi]; exact (E6.row i (by omega)).1
                  have HYI : Hid (dk[i]! = yi) := hyi
                  clear hyi
                  go_wp2_with (fail)
                  obtain ⟨ji, hji⟩ : ∃ j, Ec.kidx F i yi a2 = j := ⟨_, rfl⟩
                  have hjil : ji < i := by rw [← hji]; exact Ec.kidx_lt _ _ _ _ (by omega)
                  refine (keyedIndex_any kb ko kl kc i K I _ _ yi a2 rfl rfl _ E.l1 E.l2 (by omega) (by exact E6.key) (by exact E6.box)).mono ?_
                  rw [HF.out, hji]
                  have HJI : Hid (Ec.kidx F i yi a2 = ji) := hji
                  clear hji
                  rintro _ _ ⟨rfl, m6, rfl⟩
                  obtain ⟨G, hG⟩ : ∃ G : Nat → UInt8, ∀ t, G t = dk[t]! := ⟨fun t => dk[t]!, fun _ => rfl⟩
                  have hcw : ∀ t, t < d.size → V6.cell? ⟨mb, mo + t, none⟩ = some (.int .u8 (G t).toNat) := fun t ht => by rw [hG]; exact (E6.row t (by omega)).1
                  have hfw : ∀ t, t < d.size → V6.frozen? ⟨mb, mo + t, none⟩ = false := fun t ht => (E6.row t (by omega)).2
                  have HG : Hid (∀ t, G t = dk[t]!) := hG
                  clear hG c6
                  obtain ⟨v', hv'⟩ := cell?_setCell_some (w := V6.drewN (n3 + m6 + 1)) (p := ⟨mb, mo + ji, none⟩) (x := .int .u8 (G (i - 1)).toNat) (q := ⟨mb, mo + (i - 1), none⟩) (v := .int .u8 (G (i - 1)).toNat) (hcw (i - 1) (by omega))
                  go_wp2
                  go_region
                  rw [HG.out, HG.out, W_swap w V6 mb mo dk HV6.out _ ji (i - 1) (by omega) (by omega)]
                  obtain ⟨ds, hds⟩ : ∃ ds, Ec.swap dk ji (i - 1) = ds := ⟨_, rfl⟩
                  have hss : ds.size = d.size := by rw [← hds, Ec.size_swap, hsk]
                  rw [hds]
                  have HDS : Hid (Ec.swap dk ji (i - 1) = ds) := hds
                  clear hds hv' hcw hfw HG
                  have E8 := E.put ds hss
                  generalize hV8 : putRow u8v w mb mo ds = V8 at *
                  have HV8 : Hid (putRow u8v w mb mo ds = V8) := hV8
                  clear hV8 E6
                  obtain ⟨d7, hd7⟩ : ∃ d7, Ec.trade F ds i a2 = d7 := ⟨_, rfl⟩
                  have hs7 : d7.size = d.size := by rw [← hd7, Ec.size_trade, hss]
                  have HD7 : Hid (Ec.trade F ds i a2 = d7) := hd7
                  clear hd7
                  go_wp2_with (fail)
                  refine (tradeBits_at kb ko kl kc mb mo mc i d.size K I ds a2 w V8 _ HV8.out E8 (by omega) (by omega) hss F HF.out d7 HD7.out).mono ?_
                  rintro _ _ ⟨rfl, m7, rfl⟩
                  have E7 := E.put d7 hs7
                  generalize hV7 : putRow u8v w mb mo d7 = V7 at *
                  have HV7 : Hid (putRow u8v w mb mo d7 = V7) := hV7
                  clear hV7 E8
                  obtain ⟨y, hy⟩ : ∃ y, d7[i]! = y := ⟨_, rfl⟩
                  have ci : V7.cell? ⟨mb, mo + i, none⟩ = some (.int .u8 y.toNat) := by rw [← hy]; exact (E7.row i (by omega)).1
                  have fi : V7.frozen? ⟨mb, mo + i, none⟩ = false := (E7.row i (by omega)).2
                  obtain ⟨z, hz⟩ : ∃ z, y ^^^ b = z := ⟨_, rfl⟩
                  obtain ⟨e, he⟩ : ∃ e, F z = e := ⟨_, rfl⟩
                  obtain ⟨r, hr⟩ : ∃ r, a2 ^^^ e = r := ⟨_, rfl⟩
                  have bz := xor_int y b
                  have br := xor_int a2 e
                  rw [hz] at bz
                  rw [hr] at br
                  have HN : Hid (Ec.roundU F b a2 i dk = d7.setIfInBounds i r) := by
                    show _ = _
                    unfold Ec.roundU
                    simp only [show 1 < i by omega, show 0 < i by omega, if_true]
                    rw [HYI.out, HJI.out, HDS.out, HD7.out]
                    rw [hy, hz, he, hr]
                  have HE : Hid (F z = e) := he
                  clear hy hz he hr
                  go_wp2_with (fail)
                  refine (etbox_any kb ko kl kc K I z _ E.l1 E.l2 (by exact E7.key) (by exact E7.box)).mono ?_
                  rw [HF.out, HE.out]
                  rintro _ _ ⟨rfl, m9, rfl⟩
                  go_wp2_with (fail)
                  refine (rotl_any a2 _).mono ?_
                  rintro _ w3 ⟨rfl, hw3⟩
                  subst w3
                  go_wp2_with (fail)
                  go_roundw
                  case rel =>
                    refine ⟨i, m7 + m9, Ec.rotl a2, d7.setIfInBounds i r, by omega, by simpa using hs7, by go_num, rfl, ?_, ?_⟩
                    · rw [W_set V7 mb mo _ E7.row _ _ _ (by omega), ← HV7.out, putRow_putRow _ _ _ _ _ _ (by simp)]
                    · rw [← HN.out, ← HR.out, Ec.un3]
                  case measure => simp [intOf]
#print axioms untransform_any
end Go.Proofs.YbulkbjhgDoor
