/-
  THE LAW (5) WALKED.
-/
import Derived.Test.YbulkbjnsState
import Derived.Deep.OwnRows
namespace Go.Proofs.Ybulkbjns
open Go.RowKit Go.Sort

theorem make_seen (n : Nat) (hn : n ≤ 1024) (w : World) :
    (Instr.makeSlice 46 (.int .i64 (n : Int)) (.int .i64 (n : Int))).run Yba.prog w = .ok (.slice (some ⟨w.heap.size, 0, none⟩) n n) (w.alloc (.cells (madeCells #[.bool false] n) 4)) := by
  obtain ⟨i, hi, hz⟩ := Option.map_eq_some_iff.1 (show (Yba.prog.info? 4).map (fun i => (i.zero, i.size, i.bytes)) = some (some (.bool false), 1, 1) by kernel_rfl)
  simp only [Prod.mk.injEq] at hz
  obtain ⟨hz0, hz1, hz2⟩ := hz
  have h := run_make (P := Yba.prog) w 46 4 i (.bool false) Yba.underlying46 hi hz0 .i64 .i64 (n : Int) (n : Int) (by omega) (by omega) (by rw [hz2]; omega) (by omega)
  rw [hz1] at h
  simpa [Value.cells] using h

theorem add_plain (b off j : Nat) : (⟨b, off, none⟩ : Addr).add j = ⟨b, off + j, none⟩ := by
  unfold Addr.add
  split
  · simp_all
  · rfl

/-- A row of the call's own that is not empty. -/
theorem own_some {w : World} {B e m : Nat} {v : Value} {xs : List Value} (h : w.ownsRow B e 1 v m xs) (hm : 0 < m) : ∃ g c, v = .slice (some ⟨g, 0, none⟩) m c ∧ m ≤ c ∧ B ≤ g ∧ g < w.heap.size ∧ ∀ j, j < m → w.cell? ⟨g, j, none⟩ = xs[j]? := by
  have h' := h
  obtain ⟨_, ⟨_, h0⟩ | ⟨g, c, cur, rfl, hB, hb, hc, _⟩⟩ := h
  · omega
  · exact ⟨g, c, rfl, hc, hB, (Array.getElem?_eq_some_iff.1 hb).1, fun j hj => h'.cellAt j (by omega)⟩

/-- WHAT STANDS AHEAD OF THE SECOND LOOP. -/
structure Ends (w : World) (Q N S g wb b off k c : Nat) (ss : List (List UInt8)) (zs : List Int) (L : List Nat) (lk : Nat → Option Nat × Option Nat) : Prop where
  seq : w.cell? ⟨S, 0, none⟩ = some (.slice (some ⟨g, 0, none⟩) k c)
  each : ∀ j, j < k → w.cell? ⟨g, j, none⟩ = some (.pointer (some ⟨N + L.getD j 0, 0, none⟩))
  items : Items w N k (nmOf ss) (prOf zs) lk
  want : ∀ j, j < k → w.cell? ⟨wb, j, none⟩ = some (.string (nmOf ss (L.getD j 0)))
  names : ∀ j, j < k → w.cell? ⟨b, off + j, none⟩ = some (.string (nmOf ss j))
  lt : S < Q ∧ g < Q ∧ N + k ≤ Q ∧ wb < Q ∧ b < Q

theorem Ends.below {w w' : World} {Q N S g wb b off k c : Nat} {ss : List (List UInt8)} {zs : List Int} {L : List Nat} {lk : Nat → Option Nat × Option Nat} (h : Ends w Q N S g wb b off k c ss zs L lk) (hb : Below Q w w') : Ends w' Q N S g wb b off k c ss zs L lk := by
  obtain ⟨h1, h2, h3, h4, h5, l1, l2, l3, l4, l5⟩ := h
  refine ⟨?_, fun j hj => ?_, h3.below hb l3, fun j hj => ?_, fun j hj => ?_, l1, l2, l3, l4, l5⟩
  · rw [hb.cell (p := ⟨S, 0, none⟩) l1]; exact h1
  · rw [hb.cell (p := ⟨g, j, none⟩) l2]; exact h2 j hj
  · rw [hb.cell (p := ⟨wb, j, none⟩) l4]; exact h4 j hj
  · rw [hb.cell (p := ⟨b, off + j, none⟩) l5]; exact h5 j hj

theorem getD_map_some {α : Type} (L : List Nat) (f : Nat → α) (j k : Nat) (hL : L.length = k) (hj : j < k) : (L.map f)[j]? = some (f (L.getD j 0)) := by
  subst hL
  simp [List.getD, hj]

set_option maxRecDepth 100000 in
set_option maxHeartbeats 4000000 in
theorem law_some (b off : Nat) (len cap : Nat) (p : Option Addr) (plen pcap : Nat) (ss : List (List UInt8)) (zs : List Int) (w : World) (hl : len ≤ 1024) (h0 : 0 < len) (hss : ss.length = len) (hzs : zs.length = plen)
    (hbw : b < w.heap.size) (hN : ∀ j, j < len → w.cell? ⟨b, off + j, none⟩ = some (encStr (ss.getD j [])))
    (hP : ∀ j, j < plen → ∃ pb po, p = some ⟨pb, po, none⟩ ∧ pb < w.heap.size ∧ w.cell? ⟨pb, po + j, none⟩ = some (.int .u64 (zs.getD j 0))) :
    Calls Yba.prog 5 #[.slice (some ⟨b, off, none⟩) len cap, .slice p plen pcap] w fun e w' => e = .returned (.bool true) ∧ Below w.heap.size w w' := by
  have hl' : ¬ (1024 : Int) < (len : Int) := by omega
  have HN : Hid (∀ j, j < len → w.cell? ⟨b, off + j, none⟩ = some (encStr (ss.getD j []))) := hN
  have HP : Hid (∀ j, j < plen → ∃ pb po, p = some ⟨pb, po, none⟩ ∧ pb < w.heap.size ∧ w.cell? ⟨pb, po + j, none⟩ = some (.int .u64 (zs.getD j 0))) := hP
  have HS : Hid (ss.length = len ∧ zs.length = plen) := ⟨hss, hzs⟩
  clear hN hP hss hzs
  go_enter Yba.func5, Yba.ntmps5
  go_wp2_with (fail)
  go_loopw [6, 7] (fun vr vi wr => ∃ (k : Nat) (T : Tr) (lk : Nat → Option Nat × Option Nat), k ≤ len ∧ vi = .int .i64 k ∧ vr = .pointer (pa w.heap.size T.root) ∧ St wr w.heap.size k ss zs T lk ∧ wr.heap.size = w.heap.size + k ∧ Below w.heap.size w wr) (fun _ vi _ => len - (intOf vi).toNat)
  case atStart => exact ⟨0, .nil, fun _ => (none, none), Nat.zero_le _, rfl, rfl, St.start _ _ _ _ _, rfl, Below.refl _ _⟩
  case round =>
    obtain ⟨k, T, lk, hk, rfl, rfl, hst, hsz, hbel⟩ := hrel
    rename World => w1
    have HST : Hid (St w1 w.heap.size k ss zs T lk ∧ w1.heap.size = w.heap.size + k ∧ Below w.heap.size w w1) := ⟨hst, hsz, hbel⟩
    clear hst hsz hbel
    by_cases hlt : k < len
    · have n1 : w1.cell? ⟨b, off + k, none⟩ = some (.string (nmOf ss k)) := by
        rw [HST.out.2.2.cell (p := ⟨b, off + k, none⟩) hbw]; exact HN.out k hlt
      by_cases hp0 : 0 < plen
      · have hmod : k % plen < plen := Nat.mod_lt _ hp0
        obtain ⟨pb, po, rfl, hpb, hpc⟩ := HP.out (k % plen) hmod
        have p1 : w1.cell? ⟨pb, po + k % plen, none⟩ = some (.int .u64 (prOf zs k)) := by
          rw [HST.out.2.2.cell (p := ⟨pb, po + k % plen, none⟩) hpb, hpc, prOf, HS.out.2, if_neg (by omega)]
        clear hpc
        go_wp2_with (fail)
        rw [HST.out.2.1]
        refine (HST.out.1.insert HST.out.2.1 _ rfl).mono ?_
        rintro e w2 ⟨T', lk', rfl, a1, a2, a3⟩
        have HA : Hid (St w2 w.heap.size (k + 1) ss zs T' lk' ∧ w2.heap.size = w.heap.size + (k + 1) ∧ Below w.heap.size w w2) := ⟨a1, a2, HST.out.2.2.trans a3⟩
        clear a1 a2 a3
        go_wp2_with (fail)
        go_roundw
        case rel => exact ⟨k + 1, T', lk', by omega, by simp, rfl, HA.out⟩
        case measure => simp [intOf]; omega
      · have hz : prOf zs k = 0 := by rw [prOf, HS.out.2, if_pos (by omega)]
        have hp0' : ¬ (0 : Int) < (plen : Int) := by omega
        go_wp2_with (fail)
        rw [HST.out.2.1]
        have hins := HST.out.1.insert HST.out.2.1 _ rfl
        rw [hz] at hins
        refine hins.mono ?_
        rintro e w2 ⟨T', lk', rfl, a1, a2, a3⟩
        have HA : Hid (St w2 w.heap.size (k + 1) ss zs T' lk' ∧ w2.heap.size = w.heap.size + (k + 1) ∧ Below w.heap.size w w2) := ⟨a1, a2, HST.out.2.2.trans a3⟩
        clear a1 a2 a3 hins
        go_wp2_with (fail)
        go_roundw
        case rel => exact ⟨k + 1, T', lk', by omega, by simp, rfl, HA.out⟩
        case measure => simp [intOf]; omega
    · obtain rfl : k = len := by omega
      go_wp2_with (fail)
      rw [HST.out.2.1]
      have hlen := HST.out.1.length
      generalize hX : w1.alloc (.cells #[.slice none 0 0] 41) = ws
      have x1 : ws.heap[w.heap.size + k]? = some (.cells #[.slice none 0 0] 41) := by rw [← hX, ← HST.out.2.1]; exact heap_alloc_new _ _
      have x2 : Below (w.heap.size + k) w1 ws := by rw [← hX]; exact (Below.refl _ _).alloc (by have := HST.out.2.1; omega) _
      have x3 := HST.out.1.items.below x2 (Nat.le_refl _)
      have x4 : Below w.heap.size w ws := HST.out.2.2.trans (x2.mono (Nat.le_add_right _ _))
      have C1 := seq_any w.heap.size k (w.heap.size + k) (nmOf ss) (prOf zs) lk (Nat.le_refl _) hl T ws none 0 0 [] x3 HST.out.1.inn HST.out.1.lt x1 (World.ownsRow_nil _ _ _ _) (by omega)
      rw [hlen, Nat.zero_add, List.nil_append] at C1
      have HX : Hid (Below w.heap.size w ws ∧ Items ws w.heap.size k (nmOf ss) (prOf zs) lk) := ⟨x4, x3⟩
      clear hX x1 x2 x3 x4
      refine C1.mono ?_
      clear C1
      rintro e w2 ⟨rfl, a2, c2, hb2, ho2, B2⟩
      obtain ⟨g, c2', ev, hc2, hg1, hg2, hg3⟩ := own_some ho2 h0
      simp only [Value.slice.injEq] at ev
      obtain ⟨rfl, _, rfl⟩ := ev
      have s2 : w2.cell? ⟨w.heap.size + k, 0, none⟩ = some (.slice (some ⟨g, 0, none⟩) k c2) := cell_of_row _ _ _ _ _ _ hb2
      have HB2 : Hid (Below w.heap.size w w2) := HX.out.1.trans (B2.mono (Nat.le_add_right _ _))
      have HI2 : Hid (Items w2 w.heap.size k (nmOf ss) (prOf zs) lk) := HX.out.2.below B2 (Nat.le_refl _)
      have HG2 : Hid (w.heap.size + k + 1 ≤ g ∧ g < w2.heap.size ∧ ∀ j, j < k → w2.cell? ⟨g, j, none⟩ = some (.pointer (some ⟨w.heap.size + T.list.getD j 0, 0, none⟩))) := ⟨hg1, hg2, fun j hj => by
        rw [hg3 j hj, getD_map_some _ _ _ _ hlen hj]; rfl⟩
      have HNM : Hid (∀ j, j < k → w2.cell? ⟨b, off + j, none⟩ = some (.string (nmOf ss j))) := fun j hj => by
        rw [HB2.out.cell (p := ⟨b, off + j, none⟩) hbw]; exact HN.out j hj
      have C2 := clone_any (some ⟨b, off, none⟩) k cap w2 (ss.map encStr) hl (by simpa using HS.out.1) (by rintro ⟨⟩) (fun u hu => by obtain ⟨x, _, rfl⟩ := List.mem_map.1 hu; rfl) (fun ad had j u hu => by
        cases had
        obtain ⟨x, hx, rfl⟩ : ∃ x, ss[j]? = some x ∧ encStr x = u := by simpa using hu
        have hj : j < k := by have := (List.getElem?_eq_some_iff.1 hx).1; have := HS.out.1; omega
        refine ⟨Nat.lt_of_lt_of_le hbw HB2.out.size, ?_⟩
        rw [add_plain, HNM.out j hj, nmOf, List.getD, hx]; rfl)
      have HST0 : Hid (St w1 w.heap.size k ss zs T lk) := HST.out.1
      clear HX ho2 hb2 B2 hg1 hg2 hg3 HST
      go_wp2_with (fail)
      refine C2.mono ?_
      clear C2
      rintro e w3 ⟨v, rfl, own3, B3⟩
      have C3 := sort_own w2.heap.size k v ss w3 own3 hl B3.size
      obtain ⟨wb, c3, rfl, -, -, -, -⟩ := own_some own3 h0
      have HB3 : Hid (Below w2.heap.size w2 w3) := B3
      clear own3 B3
      go_wp2_with (fail)
      refine C3.mono ?_
      clear C3
      rintro e w4 ⟨rfl, own4, B4⟩
      obtain ⟨wb', c3', ev, hc3, hw1, hw2, hw3⟩ := own_some own4 h0
      simp only [Value.slice.injEq, Option.some.injEq, Addr.mk.injEq] at ev
      obtain ⟨⟨rfl, _, _⟩, _, rfl⟩ := ev
      have HB4 : Hid (Below w2.heap.size w2 w4) := HB3.out.trans B4
      have hSw : w.heap.size + k < w2.heap.size := by have := HG2.out.1; have := HG2.out.2.1; omega
      have hnames := (HS.out.1 ▸ HST0.out : St w1 w.heap.size ss.length ss zs T lk).names
      have HE : Hid (Ends w4 w4.heap.size w.heap.size (w.heap.size + k) g wb b off k c2 ss zs T.list lk) := by
        refine ⟨?_, fun j hj => ?_, HI2.out.below HB4.out (by omega), fun j hj => ?_, fun j hj => ?_, ?_⟩
        · rw [HB4.out.cell (p := ⟨w.heap.size + k, 0, none⟩) hSw]; exact s2
        · rw [HB4.out.cell (p := ⟨g, j, none⟩) HG2.out.2.1]; exact HG2.out.2.2 j hj
        · rw [hw3 j hj, hnames, List.map_map, getD_map_some _ _ _ _ hlen hj]; rfl
        · rw [HB4.out.cell (p := ⟨b, off + j, none⟩) (Nat.lt_of_lt_of_le hbw HB2.out.size)]; exact HNM.out j hj
        · have := HB4.out.size; have := HB2.out.size; have := HG2.out.2.1; omega
      have HB : Hid (Below w.heap.size w w4) := HB2.out.trans (HB4.out.mono HB2.out.size)
      have hmk := make_seen k hl
      clear own4 B4 hw1 hw2 hw3 HB4 HB3 hSw hnames s2 HB2 HI2 HG2 HNM
      go_wp2_with (fail)
      generalize hW5 : w4.alloc (.cells (madeCells #[.bool false] k) 4) = w5
      have y1 : w5.rowIs w4.heap.size 4 k (fun _ => .bool false) := by rw [← hW5]; exact World.rowIs_made _ _ _ _
      have y2 : Below w4.heap.size w4 w5 := by rw [← hW5]; exact (Below.refl _ _).alloc (Nat.le_refl _) _
      have HY : Hid (w5.rowIs w4.heap.size 4 k (fun _ => .bool false) ∧ Below w4.heap.size w4 w5) := ⟨y1, y2⟩
      generalize hQ : w4.heap.size = Q at HE HY
      have hQw : w.heap.size ≤ Q := by rw [← hQ]; exact HB.out.size
      have HQ : Hid (w4.heap.size = Q) := hQ
      clear hW5 hmk y1 y2
      clear hQ
      go_loopw [13] (fun vk wr => ∃ j : Nat, j ≤ k ∧ vk = .int .i64 j ∧ wr.rowIs Q 4 k (fun i => .bool (decide (i ∈ T.list.take j))) ∧ Below Q w4 wr) (fun vk _ => k - (intOf vk).toNat)
      case atStart => exact ⟨0, Nat.zero_le _, rfl, HY.out.1.congr (fun i hi => by simp), HY.out.2⟩
      case round =>
        obtain ⟨j, hj, rfl, hrow, hbel⟩ := hrel
        rename World => w6
        have HEw : Hid (Ends w6 Q w.heap.size (w.heap.size + k) g wb b off k c2 ss zs T.list lk) := HE.out.below hbel
        by_cases hlt2 : j < k
        · obtain ⟨x, hx⟩ : ∃ x, T.list.getD j 0 = x := ⟨_, rfl⟩
          have hjl : j < T.list.length := by omega
          have hxe : T.list[j] = x := by rw [← hx]; simp [List.getD, hjl]
          have hxk : x < k := HST0.out.lt x (by rw [← hxe]; exact List.getElem_mem hjl)
          have hxn : x ∉ T.list.take j := fun hm => by
            obtain ⟨i, hi, he⟩ := List.getElem_of_mem hm
            simp only [List.length_take] at hi
            rw [List.getElem_take] at he
            have := (List.getElem_inj HST0.out.nodup).1 (he.trans hxe.symm)
            omega
          have f1 := HEw.out.seq
          have f2 := HEw.out.each j hlt2
          rw [hx] at f2
          have CX := HEw.out.items.cell hxk
          have f3 := CX.owner
          have f4 : w6.cell? ⟨Q, x, none⟩ = some (.bool false) := by rw [hrow.cell hxk]; simp [hxn]
          have f5 : w6.frozen? ⟨Q, x, none⟩ = false := hrow.frozen x
          have i1 : ¬ (x : Int) < 0 := by omega
          have i2 : ¬ (k : Int) ≤ (x : Int) := by omega
          generalize hW7 : w6.setCell ⟨Q, x, none⟩ (.bool true) = w7
          have hB7 : Below Q w6 w7 := by rw [← hW7]; exact (Below.refl Q w6).setCell (p := ⟨Q, x, none⟩) (Nat.le_refl _) _
          have HR7 : Hid (w7.rowIs Q 4 k (fun i => .bool (decide (i ∈ T.list.take (j + 1)))) ∧ Below Q w4 w7) := by
            refine ⟨?_, hbel.trans hB7⟩
            rw [← hW7]
            refine (hrow.set x (.bool true)).congr fun i hi => ?_
            rw [List.take_succ_eq_append_getElem hjl, hxe]
            by_cases e : i = x
            · simp [e]
            · simp [e]
          have HE7 := HEw.out.below hB7
          have g1 := HE7.want j hlt2
          rw [hx] at g1
          have g2 := HE7.names x hxk
          have CX7 := HE7.items.cell hxk
          have g3 := CX7.name
          have g4 := CX7.owner
          have g5 := CX7.prio
          have HBW : Hid (Below w.heap.size w w7) := HB.out.trans (HR7.out.2.mono hQw)
          clear hx hxe hxn CX CX7 hB7 HE7 HEw hrow hbel
          by_cases hp0 : 0 < plen
          · have hmod : x % plen < plen := Nat.mod_lt _ hp0
            obtain ⟨pb, po, rfl, hpb, hpc⟩ := HP.out (x % plen) hmod
            have p1 : w7.cell? ⟨pb, po + x % plen, none⟩ = some (.int .u64 (prOf zs x)) := by
              rw [HBW.out.cell (p := ⟨pb, po + x % plen, none⟩) hpb, hpc, prOf, HS.out.2, if_neg (by omega)]
            clear hpc
            go_wp2_with (fail)
            go_quiet (fail)
            go_wp2_with (fail)
            go_roundw
            case rel => exact ⟨j + 1, by omega, by simp, HR7.out.1, HR7.out.2.trans (below_drewN _ _ _)⟩
            case measure => simp [intOf]; omega
          · have hz : prOf zs x = 0 := by rw [prOf, HS.out.2, if_pos (by omega)]
            have hp0' : ¬ (0 : Int) < (plen : Int) := by omega
            rw [hz] at g5
            clear hz
            go_wp2_with (fail)
            go_quiet (fail)
            go_wp2_with (fail)
            go_roundw
            case rel => exact ⟨j + 1, by omega, by simp, HR7.out.1, HR7.out.2.trans (below_drewN _ _ _)⟩
            case measure => simp [intOf]; omega
        · obtain rfl : j = k := by omega
          have C5 := heap_any w.heap.size j (nmOf ss) (prOf zs) lk T w6 0 HEw.out.items HST0.out.inn HST0.out.lt HST0.out.heap (by have := Tr.height_le T; omega)
          rw [show ((0 : Nat) : Int) = 0 from rfl] at C5
          have HF : Hid (Below w.heap.size w w6) := HB.out.trans (hbel.mono hQw)
          clear hrow hbel HEw
          go_wp2_with (fail)
          refine C5.mono ?_
          rintro e w8 ⟨rfl, q, rfl⟩
          go_wp2_with (fail)
          go_ret
          exact ⟨rfl, HF.out.trans (below_drewN _ _ _)⟩
#print axioms law_some
end Go.Proofs.Ybulkbjns
