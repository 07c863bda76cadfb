/-
  THE WALK OF LawS3017AModel (3).
-/
import Derived.Test.YbulkbjloRec
import Derived.LaidEql
namespace Go.Proofs.Ybulkbjlo
open Go.RowKit Go.Sort

theorem recL_length (T P M : Nat) (fl : UInt8) (tl : List UInt8) : (recL T P M fl tl).length = 21 + tl.length := by simp [recL, lbs_length]; omega
theorem lbs_get (n k i : Nat) (h : i < k) : (lbs n k).getD i 0 = lb n i := by
  induction k with
  | zero => omega
  | succ k ih =>
    rw [lbs, List.getD_eq_getElem?_getD]
    by_cases hi : i < k
    · rw [List.getElem?_append_left (by rw [lbs_length]; exact hi), ← List.getD_eq_getElem?_getD]
      exact ih hi
    · obtain rfl : i = k := by omega
      rw [List.getElem?_append_right (by rw [lbs_length]; omega), lbs_length]
      simp
theorem rec_time (T P M : Nat) (fl : UInt8) (tl : List UInt8) (j : Nat) (h : j < 8) : (recL T P M fl tl).getD j 0 = lb T j := by
  rw [← lbs_get T 8 j h, List.getD_eq_getElem?_getD, List.getD_eq_getElem?_getD, recL, List.append_assoc, List.append_assoc, List.append_assoc, List.getElem?_append_left (by rw [lbs_length]; exact h)]
theorem rec_pid (T P M : Nat) (fl : UInt8) (tl : List UInt8) (j : Nat) (h : j < 4) : (recL T P M fl tl).getD (8 + j) 0 = lb P j := by
  rw [← lbs_get P 4 j h, List.getD_eq_getElem?_getD, List.getD_eq_getElem?_getD, recL, List.append_assoc, List.append_assoc, List.append_assoc, List.getElem?_append_right (by rw [lbs_length]; omega), lbs_length, Nat.add_sub_cancel_left, List.getElem?_append_left (by rw [lbs_length]; exact h)]
theorem rec_flag (T P M : Nat) (fl : UInt8) (tl : List UInt8) : (recL T P M fl tl).getD 20 0 = fl := by
  rw [List.getD_eq_getElem?_getD, recL, List.append_assoc, List.getElem?_append_right (by simp [lbs_length])]
  simp [lbs_length]
theorem le8_rec (T P M : Nat) (fl : UInt8) (tl : List UInt8) (hT : T < 18446744073709551616) : le8 (fun j => (recL T P M fl tl).getD j 0) = T := by
  simp only [le8, rec_time T P M fl tl 0 (by omega), rec_time T P M fl tl 1 (by omega), rec_time T P M fl tl 2 (by omega), rec_time T P M fl tl 3 (by omega), rec_time T P M fl tl 4 (by omega), rec_time T P M fl tl 5 (by omega), rec_time T P M fl tl 6 (by omega), rec_time T P M fl tl 7 (by omega), lb, UInt8.toNat_ofNat', Nat.reducePow]
  omega
theorem le4_rec (T P M : Nat) (fl : UInt8) (tl : List UInt8) (hP : P < 4294967296) : le4 (fun j => (recL T P M fl tl).getD (8 + j) 0) = P := by
  simp only [le4, rec_pid T P M fl tl 0 (by omega), rec_pid T P M fl tl 1 (by omega), rec_pid T P M fl tl 2 (by omega), rec_pid T P M fl tl 3 (by omega), lb, UInt8.toNat_ofNat', Nat.reducePow]
  omega

/-- WHAT THE LAW HOLDS OF A RECORD. -/
theorem rec_cells (w' : World) (B len : Nat) (v : Value) (T P M : Nat) (fl : UInt8) (tl : List UInt8) (htl : tl.length = len) (h : w'.ownsRow B 5 1 v (21 + len) (cellsOf (recL T P M fl tl))) :
    ∃ g c, v = .slice (some ⟨g, 0, none⟩) (21 + len) c ∧ g < w'.heap.size ∧ 21 + len ≤ c ∧ ∀ j, j < 21 + len → w'.cell? ⟨g, 0 + j, none⟩ = some (.int .u8 ((recL T P M fl tl).getD j 0).toNat) := by
  obtain ⟨_, ⟨_, h0⟩ | ⟨g, c, cur, rfl, _, hg, hn, _, hsz, htk⟩⟩ := h
  · omega
  · refine ⟨g, c, rfl, ?_, hn, fun j hj => ?_⟩
    · rcases Nat.lt_or_ge g w'.heap.size with h' | h'
      · exact h'
      · simp [Array.getElem?_eq_none h'] at hg
    · rw [cell_of_row _ _ _ _ _ _ hg, Nat.zero_add, ← Array.getElem?_toList]
      have h2 : (cur.toList.take ((21 + len) * 1))[j]? = cur.toList[j]? := by rw [List.getElem?_take, if_pos (by omega)]
      rw [← h2, htk]
      have h3 : j < (recL T P M fl tl).length := by rw [recL_length, htl]; exact hj
      simp [cellsOf, List.getD, h3]

theorem two_new (w1 : World) (A B : Obj) (X : World) (hX : (w1.alloc A).alloc B = X) :
    X.heap[w1.heap.size]? = some A ∧ X.heap[w1.heap.size + 1]? = some B ∧ X.heap.size = w1.heap.size + 2 ∧ Below w1.heap.size w1 X := by
  subst hX
  exact ⟨heap_alloc2_old w1 A B, heap_alloc2_new w1 A B, by simp, ((Below.refl _ _).alloc (Nat.le_refl _) _).alloc (by simp) _⟩

theorem ptr_neq_same (A : Addr) (W : World) : (binOp .neq 26 (.pointer (some A)) (.pointer (some A))).run Yba.prog W = .ok (.bool false) W := by
  obtain ⟨i, hi, hs⟩ := Option.map_eq_some_iff.1 (show (Yba.prog.info? 21).map (·.size) = some 1 by kernel_rfl)
  have h : ∀ d : Nat, (Op.equalIn (d + 1) 26 (.pointer (some A)) (.pointer (some A))).run Yba.prog W = .ok true W := fun d => by
    simp [Op.equalIn, run_underlying Yba.underlying26, sizeOf, typeInfo, hi, run_sameAddr_same]
  simp only [binOp]
  simp [Op.equal, Op.maxDepth, h 9999]

set_option maxRecDepth 100000 in
set_option maxHeartbeats 4000000 in
theorem law_nil (t pid want since : Int) (T P M : Nat) (fl : UInt8) (imported samePID imp : Bool) (a : Option Addr) (len cap : Nat) (tl : List UInt8) (w : World) (hT : IntKind.u64.wrap t = (T : Int)) (hT2 : T < 18446744073709551616) (hTt : IntKind.i64.wrap (T : Nat) = t) (hP : IntKind.u32.wrap pid = (P : Int)) (hP2 : P < 4294967296) (hPp : IntKind.i32.wrap (P : Nat) = pid) (hM : M < 18446744073709551616)
    (himp : (bits .and .u8 (fl.toNat : Int) 1 != 0) = imp)
    (hl : len ≤ 1024) (htl : tl.length = len) (hnil : a = none → len = 0 ∧ cap = 0) (hcell : ∀ j, j < len → ∃ b off, a = some ⟨b, off, none⟩ ∧ b < w.heap.size ∧ w.cell? ⟨b, off + j, none⟩ = some (.int .u8 (tl.getD j 0).toNat)) :
    Calls Yba.prog 3 #[.int .i64 t, .int .i32 pid, .int .u64 M, .int .u8 fl.toNat, .bool imported, .bool false, .bool samePID, .int .i32 want, .int .i64 since, .slice a len cap] w fun e w' => e = .returned (.bool true) ∧ Below w.heap.size w w' := by
  have C1 := arec_any t pid T P M fl a len cap tl w hT hT2 hP hP2 hM hl htl hnil hcell
  have C2 : ∀ w2, Below w.heap.size w w2 → Calls Yba.prog 4 #[.int .i64 t, .int .i32 pid, .int .u64 M, .int .u8 fl.toNat, .slice a len cap] w2 fun e w' =>
      ∃ v, e = .returned v ∧ w'.ownsRow w2.heap.size 5 1 v (21 + len) (cellsOf (recL T P M fl tl)) ∧ Below w2.heap.size w2 w' := fun w2 hb =>
    arec_any t pid T P M fl a len cap tl w2 hT hT2 hP hP2 hM hl htl hnil (fun j hj => by
      obtain ⟨b, off, h1, h2, h3⟩ := hcell j hj
      exact ⟨b, off, h1, Nat.lt_of_lt_of_le h2 hb.size, by rw [hb.cell (p := ⟨b, off + j, none⟩) h2]; exact h3⟩)
  have hl' : ¬ (1024 : Int) < (len : Int) := by omega
  have HI : Hid ((bits .and .u8 (((recL T P M fl tl).getD 20 0).toNat : Int) 1 != 0) = imp) := by rw [rec_flag]; exact himp
  have H8 : Hid (IntKind.i64.wrap (le8 (fun j => (recL T P M fl tl).getD j 0) : Nat) = t) := by rw [le8_rec T P M fl tl hT2]; exact hTt
  have H4 : Hid (IntKind.i32.wrap (le4 (fun j => (recL T P M fl tl).getD (8 + j) 0) : Nat) = pid) := by rw [le4_rec T P M fl tl hP2]; exact hPp
  have HIMP : Hid ((bits .and .u8 (fl.toNat : Int) 1 != 0) = imp) := himp
  clear hT hTt hP hPp hcell hnil himp
  cases samePID
  · go_enter Yba.func3, Yba.ntmps3
    go_wp2_with (fail)
    refine C1.mono ?_
    clear C1
    rintro e w1 ⟨v, rfl, own1, B1⟩
    obtain ⟨g, c, hv, hg, hgc, hrc⟩ := rec_cells w1 _ len v T P M fl tl htl own1
    rw [hv]
    clear own1 hv
    have HB1 : Hid (Below w.heap.size w w1) := B1
    have HRC : Hid (∀ j, j < 21 + len → w1.cell? ⟨g, 0 + j, none⟩ = some (.int .u8 ((recL T P M fl tl).getD j 0).toNat)) := hrc
    clear B1 hrc
    go_wp2_with (fail)
    generalize hX : (w1.alloc (.cells #[.bool imported, .pointer none, .int .i64 since] 28)).alloc (.cells #[.int .i32 want] 21) = X
    obtain ⟨b0, b1, bs, bel⟩ := two_new w1 _ _ X hX
    have X0 : Hid (X.cell? ⟨w1.heap.size, 0, none⟩ = some (.bool imported)) := cell_of_row X _ 0 _ _ _ b0
    have X1 : Hid (X.cell? ⟨w1.heap.size, 1, none⟩ = some (.pointer none)) := cell_of_row X _ 1 _ _ _ b0
    have X2 : Hid (X.cell? ⟨w1.heap.size, 2, none⟩ = some (.int .i64 since)) := cell_of_row X _ 2 _ _ _ b0
    have X3 : Hid (X.cell? ⟨w1.heap.size + 1, 0, none⟩ = some (.int .i32 want)) := cell_of_row X _ 0 _ _ _ b1
    have HXR : Hid (∀ j, j < 21 + len → X.cell? ⟨g, 0 + j, none⟩ = some (.int .u8 ((recL T P M fl tl).getD j 0).toNat)) := fun j hj => by rw [bel.cell (p := ⟨g, 0 + j, none⟩) hg]; exact HRC.out j hj
    have hgX : g < X.heap.size := by omega
    have HB2 : Hid (Below w.heap.size w X) := HB1.out.trans (bel.mono HB1.out.size)
    clear hX b0 b1 bel hg
    refine (admits_nil w1.heap.size g (21 + len) c (fun j => (recL T P M fl tl).getD j 0) imp imported t since X (by omega) hgc hgX (fun j hj => HXR.out j (by omega)) HI.out H8.out X0.out X1.out X2.out).mono ?_
    rintro e w2 ⟨rfl, B3'⟩
    have B3 : Hid (Below X.heap.size X w2) := B3'
    clear B3'
    have himp := HIMP.out
    cases h1 : (imp == imported)
    · rw [show admits imp imported 0 t since none = false by simp [admits, h1]]
      go_wp2_with (fail)
      refine (C2 w2 (HB2.out.trans (B3.out.mono HB2.out.size))).mono ?_
      rintro e w3 ⟨v3, rfl, own3, B4⟩
      obtain ⟨g3, c3, hv3, hg3, _, hrc3⟩ := rec_cells w3 _ len v3 T P M fl tl htl own3
      rw [hv3]
      clear own3 hv3
      have hx3 : ∀ j, j < 21 + len → w3.cell? ⟨g, 0 + j, none⟩ = some (.int .u8 ((recL T P M fl tl).getD j 0).toNat) := fun j hj => by
        rw [B4.cell (p := ⟨g, 0 + j, none⟩) (Nat.lt_of_lt_of_le hgX B3.out.size), B3.out.cell (p := ⟨g, 0 + j, none⟩) hgX]; exact HXR.out j hj
      have y0 : w3.cell? ⟨w1.heap.size, 0, none⟩ = some (.bool imported) := by
        rw [B4.cell (p := ⟨w1.heap.size, 0, none⟩) (by have := B3.out.size; simp; omega), B3.out.cell (p := ⟨w1.heap.size, 0, none⟩) (by simp; omega)]; exact X0.out
      have y1 : w3.cell? ⟨w1.heap.size, 1, none⟩ = some (.pointer none) := by
        rw [B4.cell (p := ⟨w1.heap.size, 1, none⟩) (by have := B3.out.size; simp; omega), B3.out.cell (p := ⟨w1.heap.size, 1, none⟩) (by simp; omega)]; exact X1.out
      have y2 : w3.cell? ⟨w1.heap.size, 2, none⟩ = some (.int .i64 since) := by
        rw [B4.cell (p := ⟨w1.heap.size, 2, none⟩) (by have := B3.out.size; simp; omega), B3.out.cell (p := ⟨w1.heap.size, 2, none⟩) (by simp; omega)]; exact X2.out
      have y3 : w3.cell? ⟨w1.heap.size + 1, 0, none⟩ = some (.int .i32 want) := by
        rw [B4.cell (p := ⟨w1.heap.size + 1, 0, none⟩) (by have := B3.out.size; simp; omega), B3.out.cell (p := ⟨w1.heap.size + 1, 0, none⟩) (by simp; omega)]; exact X3.out
      have B5 : Hid (Below w.heap.size w w3) := (HB2.out.trans (B3.out.mono HB2.out.size)).trans (B4.mono (Nat.le_trans HB2.out.size B3.out.size))
      clear B4
      go_wp2_with (fail)
      refine (eq_any g 0 c g3 0 c3 (21 + len) (fun j => (recL T P M fl tl).getD j 0) w3 (by omega) hx3 hrc3).mono ?_
      rintro e w4 ⟨rfl, m, rfl⟩
      clear hx3 hrc3 C2
      have z1 : (imported != imported) = false := by simp
      have z2 : (since != since) = false := by simp
      have z3 : (want != want) = false := by simp
      go_wp2_with (fail)
      go_ret
      exact ⟨rfl, B5.out.os, B5.out.tape, B5.out.output, B5.out.size, B5.out.block⟩
    · skip
      cases h2 : (since == 0)
      · by_cases h3 : since ≤ t
        · rw [show admits imp imported 0 t since none = true by simp [admits, h1, h2, h3]]
          go_wp2_with (fail)
          refine (C2 w2 (HB2.out.trans (B3.out.mono HB2.out.size))).mono ?_
          rintro e w3 ⟨v3, rfl, own3, B4⟩
          obtain ⟨g3, c3, hv3, hg3, _, hrc3⟩ := rec_cells w3 _ len v3 T P M fl tl htl own3
          rw [hv3]
          clear own3 hv3
          have hx3 : ∀ j, j < 21 + len → w3.cell? ⟨g, 0 + j, none⟩ = some (.int .u8 ((recL T P M fl tl).getD j 0).toNat) := fun j hj => by
            rw [B4.cell (p := ⟨g, 0 + j, none⟩) (Nat.lt_of_lt_of_le hgX B3.out.size), B3.out.cell (p := ⟨g, 0 + j, none⟩) hgX]; exact HXR.out j hj
          have y0 : w3.cell? ⟨w1.heap.size, 0, none⟩ = some (.bool imported) := by
            rw [B4.cell (p := ⟨w1.heap.size, 0, none⟩) (by have := B3.out.size; simp; omega), B3.out.cell (p := ⟨w1.heap.size, 0, none⟩) (by simp; omega)]; exact X0.out
          have y1 : w3.cell? ⟨w1.heap.size, 1, none⟩ = some (.pointer none) := by
            rw [B4.cell (p := ⟨w1.heap.size, 1, none⟩) (by have := B3.out.size; simp; omega), B3.out.cell (p := ⟨w1.heap.size, 1, none⟩) (by simp; omega)]; exact X1.out
          have y2 : w3.cell? ⟨w1.heap.size, 2, none⟩ = some (.int .i64 since) := by
            rw [B4.cell (p := ⟨w1.heap.size, 2, none⟩) (by have := B3.out.size; simp; omega), B3.out.cell (p := ⟨w1.heap.size, 2, none⟩) (by simp; omega)]; exact X2.out
          have y3 : w3.cell? ⟨w1.heap.size + 1, 0, none⟩ = some (.int .i32 want) := by
            rw [B4.cell (p := ⟨w1.heap.size + 1, 0, none⟩) (by have := B3.out.size; simp; omega), B3.out.cell (p := ⟨w1.heap.size + 1, 0, none⟩) (by simp; omega)]; exact X3.out
          have B5 : Hid (Below w.heap.size w w3) := (HB2.out.trans (B3.out.mono HB2.out.size)).trans (B4.mono (Nat.le_trans HB2.out.size B3.out.size))
          clear B4
          go_wp2_with (fail)
          refine (eq_any g 0 c g3 0 c3 (21 + len) (fun j => (recL T P M fl tl).getD j 0) w3 (by omega) hx3 hrc3).mono ?_
          rintro e w4 ⟨rfl, m, rfl⟩
          clear hx3 hrc3 C2
          have z1 : (imported != imported) = false := by simp
          have z2 : (since != since) = false := by simp
          have z3 : (want != want) = false := by simp
          go_wp2_with (fail)
          go_ret
          exact ⟨rfl, B5.out.os, B5.out.tape, B5.out.output, B5.out.size, B5.out.block⟩
        · have h3' : decide (since ≤ t) = false := by simp; omega
          rw [show admits imp imported 0 t since none = false by simp [admits, h1, h2, h3]]
          go_wp2_with (fail)
          refine (C2 w2 (HB2.out.trans (B3.out.mono HB2.out.size))).mono ?_
          rintro e w3 ⟨v3, rfl, own3, B4⟩
          obtain ⟨g3, c3, hv3, hg3, _, hrc3⟩ := rec_cells w3 _ len v3 T P M fl tl htl own3
          rw [hv3]
          clear own3 hv3
          have hx3 : ∀ j, j < 21 + len → w3.cell? ⟨g, 0 + j, none⟩ = some (.int .u8 ((recL T P M fl tl).getD j 0).toNat) := fun j hj => by
            rw [B4.cell (p := ⟨g, 0 + j, none⟩) (Nat.lt_of_lt_of_le hgX B3.out.size), B3.out.cell (p := ⟨g, 0 + j, none⟩) hgX]; exact HXR.out j hj
          have y0 : w3.cell? ⟨w1.heap.size, 0, none⟩ = some (.bool imported) := by
            rw [B4.cell (p := ⟨w1.heap.size, 0, none⟩) (by have := B3.out.size; simp; omega), B3.out.cell (p := ⟨w1.heap.size, 0, none⟩) (by simp; omega)]; exact X0.out
          have y1 : w3.cell? ⟨w1.heap.size, 1, none⟩ = some (.pointer none) := by
            rw [B4.cell (p := ⟨w1.heap.size, 1, none⟩) (by have := B3.out.size; simp; omega), B3.out.cell (p := ⟨w1.heap.size, 1, none⟩) (by simp; omega)]; exact X1.out
          have y2 : w3.cell? ⟨w1.heap.size, 2, none⟩ = some (.int .i64 since) := by
            rw [B4.cell (p := ⟨w1.heap.size, 2, none⟩) (by have := B3.out.size; simp; omega), B3.out.cell (p := ⟨w1.heap.size, 2, none⟩) (by simp; omega)]; exact X2.out
          have y3 : w3.cell? ⟨w1.heap.size + 1, 0, none⟩ = some (.int .i32 want) := by
            rw [B4.cell (p := ⟨w1.heap.size + 1, 0, none⟩) (by have := B3.out.size; simp; omega), B3.out.cell (p := ⟨w1.heap.size + 1, 0, none⟩) (by simp; omega)]; exact X3.out
          have B5 : Hid (Below w.heap.size w w3) := (HB2.out.trans (B3.out.mono HB2.out.size)).trans (B4.mono (Nat.le_trans HB2.out.size B3.out.size))
          clear B4
          go_wp2_with (fail)
          refine (eq_any g 0 c g3 0 c3 (21 + len) (fun j => (recL T P M fl tl).getD j 0) w3 (by omega) hx3 hrc3).mono ?_
          rintro e w4 ⟨rfl, m, rfl⟩
          clear hx3 hrc3 C2
          have z1 : (imported != imported) = false := by simp
          have z2 : (since != since) = false := by simp
          have z3 : (want != want) = false := by simp
          go_wp2_with (fail)
          go_ret
          exact ⟨rfl, B5.out.os, B5.out.tape, B5.out.output, B5.out.size, B5.out.block⟩
      · rw [show admits imp imported 0 t since none = true by simp [admits, h1, h2]]
        go_wp2_with (fail)
        refine (C2 w2 (HB2.out.trans (B3.out.mono HB2.out.size))).mono ?_
        rintro e w3 ⟨v3, rfl, own3, B4⟩
        obtain ⟨g3, c3, hv3, hg3, _, hrc3⟩ := rec_cells w3 _ len v3 T P M fl tl htl own3
        rw [hv3]
        clear own3 hv3
        have hx3 : ∀ j, j < 21 + len → w3.cell? ⟨g, 0 + j, none⟩ = some (.int .u8 ((recL T P M fl tl).getD j 0).toNat) := fun j hj => by
          rw [B4.cell (p := ⟨g, 0 + j, none⟩) (Nat.lt_of_lt_of_le hgX B3.out.size), B3.out.cell (p := ⟨g, 0 + j, none⟩) hgX]; exact HXR.out j hj
        have y0 : w3.cell? ⟨w1.heap.size, 0, none⟩ = some (.bool imported) := by
          rw [B4.cell (p := ⟨w1.heap.size, 0, none⟩) (by have := B3.out.size; simp; omega), B3.out.cell (p := ⟨w1.heap.size, 0, none⟩) (by simp; omega)]; exact X0.out
        have y1 : w3.cell? ⟨w1.heap.size, 1, none⟩ = some (.pointer none) := by
          rw [B4.cell (p := ⟨w1.heap.size, 1, none⟩) (by have := B3.out.size; simp; omega), B3.out.cell (p := ⟨w1.heap.size, 1, none⟩) (by simp; omega)]; exact X1.out
        have y2 : w3.cell? ⟨w1.heap.size, 2, none⟩ = some (.int .i64 since) := by
          rw [B4.cell (p := ⟨w1.heap.size, 2, none⟩) (by have := B3.out.size; simp; omega), B3.out.cell (p := ⟨w1.heap.size, 2, none⟩) (by simp; omega)]; exact X2.out
        have y3 : w3.cell? ⟨w1.heap.size + 1, 0, none⟩ = some (.int .i32 want) := by
          rw [B4.cell (p := ⟨w1.heap.size + 1, 0, none⟩) (by have := B3.out.size; simp; omega), B3.out.cell (p := ⟨w1.heap.size + 1, 0, none⟩) (by simp; omega)]; exact X3.out
        have B5 : Hid (Below w.heap.size w w3) := (HB2.out.trans (B3.out.mono HB2.out.size)).trans (B4.mono (Nat.le_trans HB2.out.size B3.out.size))
        clear B4
        go_wp2_with (fail)
        refine (eq_any g 0 c g3 0 c3 (21 + len) (fun j => (recL T P M fl tl).getD j 0) w3 (by omega) hx3 hrc3).mono ?_
        rintro e w4 ⟨rfl, m, rfl⟩
        clear hx3 hrc3 C2
        have z1 : (imported != imported) = false := by simp
        have z2 : (since != since) = false := by simp
        have z3 : (want != want) = false := by simp
        go_wp2_with (fail)
        go_ret
        exact ⟨rfl, B5.out.os, B5.out.tape, B5.out.output, B5.out.size, B5.out.block⟩
  · go_enter Yba.func3, Yba.ntmps3
    go_wp2_with (fail)
    refine C1.mono ?_
    clear C1
    rintro e w1 ⟨v, rfl, own1, B1⟩
    obtain ⟨g, c, hv, hg, hgc, hrc⟩ := rec_cells w1 _ len v T P M fl tl htl own1
    rw [hv]
    clear own1 hv
    have HB1 : Hid (Below w.heap.size w w1) := B1
    have HRC : Hid (∀ j, j < 21 + len → w1.cell? ⟨g, 0 + j, none⟩ = some (.int .u8 ((recL T P M fl tl).getD j 0).toNat)) := hrc
    clear B1 hrc
    go_wp2_with (fail)
    generalize hX : (w1.alloc (.cells #[.bool imported, .pointer none, .int .i64 since] 28)).alloc (.cells #[.int .i32 pid] 21) = X
    obtain ⟨b0, b1, bs, bel⟩ := two_new w1 _ _ X hX
    have X0 : Hid (X.cell? ⟨w1.heap.size, 0, none⟩ = some (.bool imported)) := cell_of_row X _ 0 _ _ _ b0
    have X1 : Hid (X.cell? ⟨w1.heap.size, 1, none⟩ = some (.pointer none)) := cell_of_row X _ 1 _ _ _ b0
    have X2 : Hid (X.cell? ⟨w1.heap.size, 2, none⟩ = some (.int .i64 since)) := cell_of_row X _ 2 _ _ _ b0
    have X3 : Hid (X.cell? ⟨w1.heap.size + 1, 0, none⟩ = some (.int .i32 pid)) := cell_of_row X _ 0 _ _ _ b1
    have HXR : Hid (∀ j, j < 21 + len → X.cell? ⟨g, 0 + j, none⟩ = some (.int .u8 ((recL T P M fl tl).getD j 0).toNat)) := fun j hj => by rw [bel.cell (p := ⟨g, 0 + j, none⟩) hg]; exact HRC.out j hj
    have hgX : g < X.heap.size := by omega
    have HB2 : Hid (Below w.heap.size w X) := HB1.out.trans (bel.mono HB1.out.size)
    clear hX b0 b1 bel hg
    refine (admits_nil w1.heap.size g (21 + len) c (fun j => (recL T P M fl tl).getD j 0) imp imported t since X (by omega) hgc hgX (fun j hj => HXR.out j (by omega)) HI.out H8.out X0.out X1.out X2.out).mono ?_
    rintro e w2 ⟨rfl, B3'⟩
    have B3 : Hid (Below X.heap.size X w2) := B3'
    clear B3'
    have himp := HIMP.out
    cases h1 : (imp == imported)
    · rw [show admits imp imported 0 t since none = false by simp [admits, h1]]
      go_wp2_with (fail)
      refine (C2 w2 (HB2.out.trans (B3.out.mono HB2.out.size))).mono ?_
      rintro e w3 ⟨v3, rfl, own3, B4⟩
      obtain ⟨g3, c3, hv3, hg3, _, hrc3⟩ := rec_cells w3 _ len v3 T P M fl tl htl own3
      rw [hv3]
      clear own3 hv3
      have hx3 : ∀ j, j < 21 + len → w3.cell? ⟨g, 0 + j, none⟩ = some (.int .u8 ((recL T P M fl tl).getD j 0).toNat) := fun j hj => by
        rw [B4.cell (p := ⟨g, 0 + j, none⟩) (Nat.lt_of_lt_of_le hgX B3.out.size), B3.out.cell (p := ⟨g, 0 + j, none⟩) hgX]; exact HXR.out j hj
      have y0 : w3.cell? ⟨w1.heap.size, 0, none⟩ = some (.bool imported) := by
        rw [B4.cell (p := ⟨w1.heap.size, 0, none⟩) (by have := B3.out.size; simp; omega), B3.out.cell (p := ⟨w1.heap.size, 0, none⟩) (by simp; omega)]; exact X0.out
      have y1 : w3.cell? ⟨w1.heap.size, 1, none⟩ = some (.pointer none) := by
        rw [B4.cell (p := ⟨w1.heap.size, 1, none⟩) (by have := B3.out.size; simp; omega), B3.out.cell (p := ⟨w1.heap.size, 1, none⟩) (by simp; omega)]; exact X1.out
      have y2 : w3.cell? ⟨w1.heap.size, 2, none⟩ = some (.int .i64 since) := by
        rw [B4.cell (p := ⟨w1.heap.size, 2, none⟩) (by have := B3.out.size; simp; omega), B3.out.cell (p := ⟨w1.heap.size, 2, none⟩) (by simp; omega)]; exact X2.out
      have y3 : w3.cell? ⟨w1.heap.size + 1, 0, none⟩ = some (.int .i32 pid) := by
        rw [B4.cell (p := ⟨w1.heap.size + 1, 0, none⟩) (by have := B3.out.size; simp; omega), B3.out.cell (p := ⟨w1.heap.size + 1, 0, none⟩) (by simp; omega)]; exact X3.out
      have B5 : Hid (Below w.heap.size w w3) := (HB2.out.trans (B3.out.mono HB2.out.size)).trans (B4.mono (Nat.le_trans HB2.out.size B3.out.size))
      clear B4
      go_wp2_with (fail)
      refine (eq_any g 0 c g3 0 c3 (21 + len) (fun j => (recL T P M fl tl).getD j 0) w3 (by omega) hx3 hrc3).mono ?_
      rintro e w4 ⟨rfl, m, rfl⟩
      clear hx3 hrc3 C2
      have z1 : (imported != imported) = false := by simp
      have z2 : (since != since) = false := by simp
      have z3 : (pid != pid) = false := by simp
      go_wp2_with (fail)
      go_ret
      exact ⟨rfl, B5.out.os, B5.out.tape, B5.out.output, B5.out.size, B5.out.block⟩
    · skip
      cases h2 : (since == 0)
      · by_cases h3 : since ≤ t
        · rw [show admits imp imported 0 t since none = true by simp [admits, h1, h2, h3]]
          go_wp2_with (fail)
          refine (C2 w2 (HB2.out.trans (B3.out.mono HB2.out.size))).mono ?_
          rintro e w3 ⟨v3, rfl, own3, B4⟩
          obtain ⟨g3, c3, hv3, hg3, _, hrc3⟩ := rec_cells w3 _ len v3 T P M fl tl htl own3
          rw [hv3]
          clear own3 hv3
          have hx3 : ∀ j, j < 21 + len → w3.cell? ⟨g, 0 + j, none⟩ = some (.int .u8 ((recL T P M fl tl).getD j 0).toNat) := fun j hj => by
            rw [B4.cell (p := ⟨g, 0 + j, none⟩) (Nat.lt_of_lt_of_le hgX B3.out.size), B3.out.cell (p := ⟨g, 0 + j, none⟩) hgX]; exact HXR.out j hj
          have y0 : w3.cell? ⟨w1.heap.size, 0, none⟩ = some (.bool imported) := by
            rw [B4.cell (p := ⟨w1.heap.size, 0, none⟩) (by have := B3.out.size; simp; omega), B3.out.cell (p := ⟨w1.heap.size, 0, none⟩) (by simp; omega)]; exact X0.out
          have y1 : w3.cell? ⟨w1.heap.size, 1, none⟩ = some (.pointer none) := by
            rw [B4.cell (p := ⟨w1.heap.size, 1, none⟩) (by have := B3.out.size; simp; omega), B3.out.cell (p := ⟨w1.heap.size, 1, none⟩) (by simp; omega)]; exact X1.out
          have y2 : w3.cell? ⟨w1.heap.size, 2, none⟩ = some (.int .i64 since) := by
            rw [B4.cell (p := ⟨w1.heap.size, 2, none⟩) (by have := B3.out.size; simp; omega), B3.out.cell (p := ⟨w1.heap.size, 2, none⟩) (by simp; omega)]; exact X2.out
          have y3 : w3.cell? ⟨w1.heap.size + 1, 0, none⟩ = some (.int .i32 pid) := by
            rw [B4.cell (p := ⟨w1.heap.size + 1, 0, none⟩) (by have := B3.out.size; simp; omega), B3.out.cell (p := ⟨w1.heap.size + 1, 0, none⟩) (by simp; omega)]; exact X3.out
          have B5 : Hid (Below w.heap.size w w3) := (HB2.out.trans (B3.out.mono HB2.out.size)).trans (B4.mono (Nat.le_trans HB2.out.size B3.out.size))
          clear B4
          go_wp2_with (fail)
          refine (eq_any g 0 c g3 0 c3 (21 + len) (fun j => (recL T P M fl tl).getD j 0) w3 (by omega) hx3 hrc3).mono ?_
          rintro e w4 ⟨rfl, m, rfl⟩
          clear hx3 hrc3 C2
          have z1 : (imported != imported) = false := by simp
          have z2 : (since != since) = false := by simp
          have z3 : (pid != pid) = false := by simp
          go_wp2_with (fail)
          go_ret
          exact ⟨rfl, B5.out.os, B5.out.tape, B5.out.output, B5.out.size, B5.out.block⟩
        · have h3' : decide (since ≤ t) = false := by simp; omega
          rw [show admits imp imported 0 t since none = false by simp [admits, h1, h2, h3]]
          go_wp2_with (fail)
          refine (C2 w2 (HB2.out.trans (B3.out.mono HB2.out.size))).mono ?_
          rintro e w3 ⟨v3, rfl, own3, B4⟩
          obtain ⟨g3, c3, hv3, hg3, _, hrc3⟩ := rec_cells w3 _ len v3 T P M fl tl htl own3
          rw [hv3]
          clear own3 hv3
          have hx3 : ∀ j, j < 21 + len → w3.cell? ⟨g, 0 + j, none⟩ = some (.int .u8 ((recL T P M fl tl).getD j 0).toNat) := fun j hj => by
            rw [B4.cell (p := ⟨g, 0 + j, none⟩) (Nat.lt_of_lt_of_le hgX B3.out.size), B3.out.cell (p := ⟨g, 0 + j, none⟩) hgX]; exact HXR.out j hj
          have y0 : w3.cell? ⟨w1.heap.size, 0, none⟩ = some (.bool imported) := by
            rw [B4.cell (p := ⟨w1.heap.size, 0, none⟩) (by have := B3.out.size; simp; omega), B3.out.cell (p := ⟨w1.heap.size, 0, none⟩) (by simp; omega)]; exact X0.out
          have y1 : w3.cell? ⟨w1.heap.size, 1, none⟩ = some (.pointer none) := by
            rw [B4.cell (p := ⟨w1.heap.size, 1, none⟩) (by have := B3.out.size; simp; omega), B3.out.cell (p := ⟨w1.heap.size, 1, none⟩) (by simp; omega)]; exact X1.out
          have y2 : w3.cell? ⟨w1.heap.size, 2, none⟩ = some (.int .i64 since) := by
            rw [B4.cell (p := ⟨w1.heap.size, 2, none⟩) (by have := B3.out.size; simp; omega), B3.out.cell (p := ⟨w1.heap.size, 2, none⟩) (by simp; omega)]; exact X2.out
          have y3 : w3.cell? ⟨w1.heap.size + 1, 0, none⟩ = some (.int .i32 pid) := by
            rw [B4.cell (p := ⟨w1.heap.size + 1, 0, none⟩) (by have := B3.out.size; simp; omega), B3.out.cell (p := ⟨w1.heap.size + 1, 0, none⟩) (by simp; omega)]; exact X3.out
          have B5 : Hid (Below w.heap.size w w3) := (HB2.out.trans (B3.out.mono HB2.out.size)).trans (B4.mono (Nat.le_trans HB2.out.size B3.out.size))
          clear B4
          go_wp2_with (fail)
          refine (eq_any g 0 c g3 0 c3 (21 + len) (fun j => (recL T P M fl tl).getD j 0) w3 (by omega) hx3 hrc3).mono ?_
          rintro e w4 ⟨rfl, m, rfl⟩
          clear hx3 hrc3 C2
          have z1 : (imported != imported) = false := by simp
          have z2 : (since != since) = false := by simp
          have z3 : (pid != pid) = false := by simp
          go_wp2_with (fail)
          go_ret
          exact ⟨rfl, B5.out.os, B5.out.tape, B5.out.output, B5.out.size, B5.out.block⟩
      · rw [show admits imp imported 0 t since none = true by simp [admits, h1, h2]]
        go_wp2_with (fail)
        refine (C2 w2 (HB2.out.trans (B3.out.mono HB2.out.size))).mono ?_
        rintro e w3 ⟨v3, rfl, own3, B4⟩
        obtain ⟨g3, c3, hv3, hg3, _, hrc3⟩ := rec_cells w3 _ len v3 T P M fl tl htl own3
        rw [hv3]
        clear own3 hv3
        have hx3 : ∀ j, j < 21 + len → w3.cell? ⟨g, 0 + j, none⟩ = some (.int .u8 ((recL T P M fl tl).getD j 0).toNat) := fun j hj => by
          rw [B4.cell (p := ⟨g, 0 + j, none⟩) (Nat.lt_of_lt_of_le hgX B3.out.size), B3.out.cell (p := ⟨g, 0 + j, none⟩) hgX]; exact HXR.out j hj
        have y0 : w3.cell? ⟨w1.heap.size, 0, none⟩ = some (.bool imported) := by
          rw [B4.cell (p := ⟨w1.heap.size, 0, none⟩) (by have := B3.out.size; simp; omega), B3.out.cell (p := ⟨w1.heap.size, 0, none⟩) (by simp; omega)]; exact X0.out
        have y1 : w3.cell? ⟨w1.heap.size, 1, none⟩ = some (.pointer none) := by
          rw [B4.cell (p := ⟨w1.heap.size, 1, none⟩) (by have := B3.out.size; simp; omega), B3.out.cell (p := ⟨w1.heap.size, 1, none⟩) (by simp; omega)]; exact X1.out
        have y2 : w3.cell? ⟨w1.heap.size, 2, none⟩ = some (.int .i64 since) := by
          rw [B4.cell (p := ⟨w1.heap.size, 2, none⟩) (by have := B3.out.size; simp; omega), B3.out.cell (p := ⟨w1.heap.size, 2, none⟩) (by simp; omega)]; exact X2.out
        have y3 : w3.cell? ⟨w1.heap.size + 1, 0, none⟩ = some (.int .i32 pid) := by
          rw [B4.cell (p := ⟨w1.heap.size + 1, 0, none⟩) (by have := B3.out.size; simp; omega), B3.out.cell (p := ⟨w1.heap.size + 1, 0, none⟩) (by simp; omega)]; exact X3.out
        have B5 : Hid (Below w.heap.size w w3) := (HB2.out.trans (B3.out.mono HB2.out.size)).trans (B4.mono (Nat.le_trans HB2.out.size B3.out.size))
        clear B4
        go_wp2_with (fail)
        refine (eq_any g 0 c g3 0 c3 (21 + len) (fun j => (recL T P M fl tl).getD j 0) w3 (by omega) hx3 hrc3).mono ?_
        rintro e w4 ⟨rfl, m, rfl⟩
        clear hx3 hrc3 C2
        have z1 : (imported != imported) = false := by simp
        have z2 : (since != since) = false := by simp
        have z3 : (pid != pid) = false := by simp
        go_wp2_with (fail)
        go_ret
        exact ⟨rfl, B5.out.os, B5.out.tape, B5.out.output, B5.out.size, B5.out.block⟩
#print axioms law_nil

set_option maxRecDepth 100000 in
set_option maxHeartbeats 4000000 in
theorem law_pid (t pid want since : Int) (T P M : Nat) (fl : UInt8) (imported samePID imp : Bool) (a : Option Addr) (len cap : Nat) (tl : List UInt8) (w : World) (hT : IntKind.u64.wrap t = (T : Int)) (hT2 : T < 18446744073709551616) (hTt : IntKind.i64.wrap (T : Nat) = t) (hP : IntKind.u32.wrap pid = (P : Int)) (hP2 : P < 4294967296) (hPp : IntKind.i32.wrap (P : Nat) = pid) (hM : M < 18446744073709551616)
    (himp : (bits .and .u8 (fl.toNat : Int) 1 != 0) = imp)
    (hl : len ≤ 1024) (htl : tl.length = len) (hnil : a = none → len = 0 ∧ cap = 0) (hcell : ∀ j, j < len → ∃ b off, a = some ⟨b, off, none⟩ ∧ b < w.heap.size ∧ w.cell? ⟨b, off + j, none⟩ = some (.int .u8 (tl.getD j 0).toNat)) :
    Calls Yba.prog 3 #[.int .i64 t, .int .i32 pid, .int .u64 M, .int .u8 fl.toNat, .bool imported, .bool true, .bool samePID, .int .i32 want, .int .i64 since, .slice a len cap] w fun e w' => e = .returned (.bool true) ∧ Below w.heap.size w w' := by
  have C1 := arec_any t pid T P M fl a len cap tl w hT hT2 hP hP2 hM hl htl hnil hcell
  have C2 : ∀ w2, Below w.heap.size w w2 → Calls Yba.prog 4 #[.int .i64 t, .int .i32 pid, .int .u64 M, .int .u8 fl.toNat, .slice a len cap] w2 fun e w' =>
      ∃ v, e = .returned v ∧ w'.ownsRow w2.heap.size 5 1 v (21 + len) (cellsOf (recL T P M fl tl)) ∧ Below w2.heap.size w2 w' := fun w2 hb =>
    arec_any t pid T P M fl a len cap tl w2 hT hT2 hP hP2 hM hl htl hnil (fun j hj => by
      obtain ⟨b, off, h1, h2, h3⟩ := hcell j hj
      exact ⟨b, off, h1, Nat.lt_of_lt_of_le h2 hb.size, by rw [hb.cell (p := ⟨b, off + j, none⟩) h2]; exact h3⟩)
  have hl' : ¬ (1024 : Int) < (len : Int) := by omega
  have HI : Hid ((bits .and .u8 (((recL T P M fl tl).getD 20 0).toNat : Int) 1 != 0) = imp) := by rw [rec_flag]; exact himp
  have H8 : Hid (IntKind.i64.wrap (le8 (fun j => (recL T P M fl tl).getD j 0) : Nat) = t) := by rw [le8_rec T P M fl tl hT2]; exact hTt
  have H4 : Hid (IntKind.i32.wrap (le4 (fun j => (recL T P M fl tl).getD (8 + j) 0) : Nat) = pid) := by rw [le4_rec T P M fl tl hP2]; exact hPp
  have HIMP : Hid ((bits .and .u8 (fl.toNat : Int) 1 != 0) = imp) := himp
  clear hT hTt hP hPp hcell hnil himp
  cases samePID
  · go_enter Yba.func3, Yba.ntmps3
    go_wp2_with (fail)
    refine C1.mono ?_
    clear C1
    rintro e w1 ⟨v, rfl, own1, B1⟩
    obtain ⟨g, c, hv, hg, hgc, hrc⟩ := rec_cells w1 _ len v T P M fl tl htl own1
    rw [hv]
    clear own1 hv
    have HB1 : Hid (Below w.heap.size w w1) := B1
    have HRC : Hid (∀ j, j < 21 + len → w1.cell? ⟨g, 0 + j, none⟩ = some (.int .u8 ((recL T P M fl tl).getD j 0).toNat)) := hrc
    clear B1 hrc
    go_wp2_with (fail)
    generalize hX : (w1.alloc (.cells #[.bool imported, .pointer (some ⟨w1.heap.size + 1, 0, none⟩), .int .i64 since] 28)).alloc (.cells #[.int .i32 want] 21) = X
    obtain ⟨b0, b1, bs, bel⟩ := two_new w1 _ _ X hX
    have X0 : Hid (X.cell? ⟨w1.heap.size, 0, none⟩ = some (.bool imported)) := cell_of_row X _ 0 _ _ _ b0
    have X1 : Hid (X.cell? ⟨w1.heap.size, 1, none⟩ = some (.pointer (some ⟨w1.heap.size + 1, 0, none⟩))) := cell_of_row X _ 1 _ _ _ b0
    have X2 : Hid (X.cell? ⟨w1.heap.size, 2, none⟩ = some (.int .i64 since)) := cell_of_row X _ 2 _ _ _ b0
    have X3 : Hid (X.cell? ⟨w1.heap.size + 1, 0, none⟩ = some (.int .i32 want)) := cell_of_row X _ 0 _ _ _ b1
    have HXR : Hid (∀ j, j < 21 + len → X.cell? ⟨g, 0 + j, none⟩ = some (.int .u8 ((recL T P M fl tl).getD j 0).toNat)) := fun j hj => by rw [bel.cell (p := ⟨g, 0 + j, none⟩) hg]; exact HRC.out j hj
    have hgX : g < X.heap.size := by omega
    have HB2 : Hid (Below w.heap.size w X) := HB1.out.trans (bel.mono HB1.out.size)
    clear hX b0 b1 bel hg
    refine (admits_pid w1.heap.size g (21 + len) c (fun j => (recL T P M fl tl).getD j 0) imp imported t since pid want (w1.heap.size + 1) X (by omega) hgc hgX (fun j hj => HXR.out j (by omega)) HI.out H8.out X0.out X1.out X2.out X3.out H4.out).mono ?_
    rintro e w2 ⟨rfl, B3'⟩
    have B3 : Hid (Below X.heap.size X w2) := B3'
    clear B3'
    have himp := HIMP.out
    cases h1 : (imp == imported)
    · rw [show admits imp imported pid t since (some want) = false by simp [admits, h1]]
      go_wp2_with (fail)
      refine (C2 w2 (HB2.out.trans (B3.out.mono HB2.out.size))).mono ?_
      rintro e w3 ⟨v3, rfl, own3, B4⟩
      obtain ⟨g3, c3, hv3, hg3, _, hrc3⟩ := rec_cells w3 _ len v3 T P M fl tl htl own3
      rw [hv3]
      clear own3 hv3
      have hx3 : ∀ j, j < 21 + len → w3.cell? ⟨g, 0 + j, none⟩ = some (.int .u8 ((recL T P M fl tl).getD j 0).toNat) := fun j hj => by
        rw [B4.cell (p := ⟨g, 0 + j, none⟩) (Nat.lt_of_lt_of_le hgX B3.out.size), B3.out.cell (p := ⟨g, 0 + j, none⟩) hgX]; exact HXR.out j hj
      have y0 : w3.cell? ⟨w1.heap.size, 0, none⟩ = some (.bool imported) := by
        rw [B4.cell (p := ⟨w1.heap.size, 0, none⟩) (by have := B3.out.size; simp; omega), B3.out.cell (p := ⟨w1.heap.size, 0, none⟩) (by simp; omega)]; exact X0.out
      have y1 : w3.cell? ⟨w1.heap.size, 1, none⟩ = some (.pointer (some ⟨w1.heap.size + 1, 0, none⟩)) := by
        rw [B4.cell (p := ⟨w1.heap.size, 1, none⟩) (by have := B3.out.size; simp; omega), B3.out.cell (p := ⟨w1.heap.size, 1, none⟩) (by simp; omega)]; exact X1.out
      have y2 : w3.cell? ⟨w1.heap.size, 2, none⟩ = some (.int .i64 since) := by
        rw [B4.cell (p := ⟨w1.heap.size, 2, none⟩) (by have := B3.out.size; simp; omega), B3.out.cell (p := ⟨w1.heap.size, 2, none⟩) (by simp; omega)]; exact X2.out
      have y3 : w3.cell? ⟨w1.heap.size + 1, 0, none⟩ = some (.int .i32 want) := by
        rw [B4.cell (p := ⟨w1.heap.size + 1, 0, none⟩) (by have := B3.out.size; simp; omega), B3.out.cell (p := ⟨w1.heap.size + 1, 0, none⟩) (by simp; omega)]; exact X3.out
      have B5 : Hid (Below w.heap.size w w3) := (HB2.out.trans (B3.out.mono HB2.out.size)).trans (B4.mono (Nat.le_trans HB2.out.size B3.out.size))
      clear B4
      go_wp2_with (fail)
      refine (eq_any g 0 c g3 0 c3 (21 + len) (fun j => (recL T P M fl tl).getD j 0) w3 (by omega) hx3 hrc3).mono ?_
      rintro e w4 ⟨rfl, m, rfl⟩
      clear hx3 hrc3 C2
      have z0 := ptr_neq_same
      have z1 : (imported != imported) = false := by simp
      have z2 : (since != since) = false := by simp
      have z3 : (want != want) = false := by simp
      go_wp2_with (fail)
      go_ret
      exact ⟨rfl, B5.out.os, B5.out.tape, B5.out.output, B5.out.size, B5.out.block⟩
    · cases hq : (pid == want)
      · rw [show admits imp imported pid t since (some want) = false by simp [admits, h1, hq]]
        go_wp2_with (fail)
        refine (C2 w2 (HB2.out.trans (B3.out.mono HB2.out.size))).mono ?_
        rintro e w3 ⟨v3, rfl, own3, B4⟩
        obtain ⟨g3, c3, hv3, hg3, _, hrc3⟩ := rec_cells w3 _ len v3 T P M fl tl htl own3
        rw [hv3]
        clear own3 hv3
        have hx3 : ∀ j, j < 21 + len → w3.cell? ⟨g, 0 + j, none⟩ = some (.int .u8 ((recL T P M fl tl).getD j 0).toNat) := fun j hj => by
          rw [B4.cell (p := ⟨g, 0 + j, none⟩) (Nat.lt_of_lt_of_le hgX B3.out.size), B3.out.cell (p := ⟨g, 0 + j, none⟩) hgX]; exact HXR.out j hj
        have y0 : w3.cell? ⟨w1.heap.size, 0, none⟩ = some (.bool imported) := by
          rw [B4.cell (p := ⟨w1.heap.size, 0, none⟩) (by have := B3.out.size; simp; omega), B3.out.cell (p := ⟨w1.heap.size, 0, none⟩) (by simp; omega)]; exact X0.out
        have y1 : w3.cell? ⟨w1.heap.size, 1, none⟩ = some (.pointer (some ⟨w1.heap.size + 1, 0, none⟩)) := by
          rw [B4.cell (p := ⟨w1.heap.size, 1, none⟩) (by have := B3.out.size; simp; omega), B3.out.cell (p := ⟨w1.heap.size, 1, none⟩) (by simp; omega)]; exact X1.out
        have y2 : w3.cell? ⟨w1.heap.size, 2, none⟩ = some (.int .i64 since) := by
          rw [B4.cell (p := ⟨w1.heap.size, 2, none⟩) (by have := B3.out.size; simp; omega), B3.out.cell (p := ⟨w1.heap.size, 2, none⟩) (by simp; omega)]; exact X2.out
        have y3 : w3.cell? ⟨w1.heap.size + 1, 0, none⟩ = some (.int .i32 want) := by
          rw [B4.cell (p := ⟨w1.heap.size + 1, 0, none⟩) (by have := B3.out.size; simp; omega), B3.out.cell (p := ⟨w1.heap.size + 1, 0, none⟩) (by simp; omega)]; exact X3.out
        have B5 : Hid (Below w.heap.size w w3) := (HB2.out.trans (B3.out.mono HB2.out.size)).trans (B4.mono (Nat.le_trans HB2.out.size B3.out.size))
        clear B4
        go_wp2_with (fail)
        refine (eq_any g 0 c g3 0 c3 (21 + len) (fun j => (recL T P M fl tl).getD j 0) w3 (by omega) hx3 hrc3).mono ?_
        rintro e w4 ⟨rfl, m, rfl⟩
        clear hx3 hrc3 C2
        have z0 := ptr_neq_same
        have z1 : (imported != imported) = false := by simp
        have z2 : (since != since) = false := by simp
        have z3 : (want != want) = false := by simp
        go_wp2_with (fail)
        go_ret
        exact ⟨rfl, B5.out.os, B5.out.tape, B5.out.output, B5.out.size, B5.out.block⟩
      · cases h2 : (since == 0)
        · by_cases h3 : since ≤ t
          · rw [show admits imp imported pid t since (some want) = true by simp [admits, h1, h2, h3, hq]]
            go_wp2_with (fail)
            refine (C2 w2 (HB2.out.trans (B3.out.mono HB2.out.size))).mono ?_
            rintro e w3 ⟨v3, rfl, own3, B4⟩
            obtain ⟨g3, c3, hv3, hg3, _, hrc3⟩ := rec_cells w3 _ len v3 T P M fl tl htl own3
            rw [hv3]
            clear own3 hv3
            have hx3 : ∀ j, j < 21 + len → w3.cell? ⟨g, 0 + j, none⟩ = some (.int .u8 ((recL T P M fl tl).getD j 0).toNat) := fun j hj => by
              rw [B4.cell (p := ⟨g, 0 + j, none⟩) (Nat.lt_of_lt_of_le hgX B3.out.size), B3.out.cell (p := ⟨g, 0 + j, none⟩) hgX]; exact HXR.out j hj
            have y0 : w3.cell? ⟨w1.heap.size, 0, none⟩ = some (.bool imported) := by
              rw [B4.cell (p := ⟨w1.heap.size, 0, none⟩) (by have := B3.out.size; simp; omega), B3.out.cell (p := ⟨w1.heap.size, 0, none⟩) (by simp; omega)]; exact X0.out
            have y1 : w3.cell? ⟨w1.heap.size, 1, none⟩ = some (.pointer (some ⟨w1.heap.size + 1, 0, none⟩)) := by
              rw [B4.cell (p := ⟨w1.heap.size, 1, none⟩) (by have := B3.out.size; simp; omega), B3.out.cell (p := ⟨w1.heap.size, 1, none⟩) (by simp; omega)]; exact X1.out
            have y2 : w3.cell? ⟨w1.heap.size, 2, none⟩ = some (.int .i64 since) := by
              rw [B4.cell (p := ⟨w1.heap.size, 2, none⟩) (by have := B3.out.size; simp; omega), B3.out.cell (p := ⟨w1.heap.size, 2, none⟩) (by simp; omega)]; exact X2.out
            have y3 : w3.cell? ⟨w1.heap.size + 1, 0, none⟩ = some (.int .i32 want) := by
              rw [B4.cell (p := ⟨w1.heap.size + 1, 0, none⟩) (by have := B3.out.size; simp; omega), B3.out.cell (p := ⟨w1.heap.size + 1, 0, none⟩) (by simp; omega)]; exact X3.out
            have B5 : Hid (Below w.heap.size w w3) := (HB2.out.trans (B3.out.mono HB2.out.size)).trans (B4.mono (Nat.le_trans HB2.out.size B3.out.size))
            clear B4
            go_wp2_with (fail)
            refine (eq_any g 0 c g3 0 c3 (21 + len) (fun j => (recL T P M fl tl).getD j 0) w3 (by omega) hx3 hrc3).mono ?_
            rintro e w4 ⟨rfl, m, rfl⟩
            clear hx3 hrc3 C2
            have z0 := ptr_neq_same
            have z1 : (imported != imported) = false := by simp
            have z2 : (since != since) = false := by simp
            have z3 : (want != want) = false := by simp
            go_wp2_with (fail)
            go_ret
            exact ⟨rfl, B5.out.os, B5.out.tape, B5.out.output, B5.out.size, B5.out.block⟩
          · have h3' : decide (since ≤ t) = false := by simp; omega
            rw [show admits imp imported pid t since (some want) = false by simp [admits, h1, h2, h3, hq]]
            go_wp2_with (fail)
            refine (C2 w2 (HB2.out.trans (B3.out.mono HB2.out.size))).mono ?_
            rintro e w3 ⟨v3, rfl, own3, B4⟩
            obtain ⟨g3, c3, hv3, hg3, _, hrc3⟩ := rec_cells w3 _ len v3 T P M fl tl htl own3
            rw [hv3]
            clear own3 hv3
            have hx3 : ∀ j, j < 21 + len → w3.cell? ⟨g, 0 + j, none⟩ = some (.int .u8 ((recL T P M fl tl).getD j 0).toNat) := fun j hj => by
              rw [B4.cell (p := ⟨g, 0 + j, none⟩) (Nat.lt_of_lt_of_le hgX B3.out.size), B3.out.cell (p := ⟨g, 0 + j, none⟩) hgX]; exact HXR.out j hj
            have y0 : w3.cell? ⟨w1.heap.size, 0, none⟩ = some (.bool imported) := by
              rw [B4.cell (p := ⟨w1.heap.size, 0, none⟩) (by have := B3.out.size; simp; omega), B3.out.cell (p := ⟨w1.heap.size, 0, none⟩) (by simp; omega)]; exact X0.out
            have y1 : w3.cell? ⟨w1.heap.size, 1, none⟩ = some (.pointer (some ⟨w1.heap.size + 1, 0, none⟩)) := by
              rw [B4.cell (p := ⟨w1.heap.size, 1, none⟩) (by have := B3.out.size; simp; omega), B3.out.cell (p := ⟨w1.heap.size, 1, none⟩) (by simp; omega)]; exact X1.out
            have y2 : w3.cell? ⟨w1.heap.size, 2, none⟩ = some (.int .i64 since) := by
              rw [B4.cell (p := ⟨w1.heap.size, 2, none⟩) (by have := B3.out.size; simp; omega), B3.out.cell (p := ⟨w1.heap.size, 2, none⟩) (by simp; omega)]; exact X2.out
            have y3 : w3.cell? ⟨w1.heap.size + 1, 0, none⟩ = some (.int .i32 want) := by
              rw [B4.cell (p := ⟨w1.heap.size + 1, 0, none⟩) (by have := B3.out.size; simp; omega), B3.out.cell (p := ⟨w1.heap.size + 1, 0, none⟩) (by simp; omega)]; exact X3.out
            have B5 : Hid (Below w.heap.size w w3) := (HB2.out.trans (B3.out.mono HB2.out.size)).trans (B4.mono (Nat.le_trans HB2.out.size B3.out.size))
            clear B4
            go_wp2_with (fail)
            refine (eq_any g 0 c g3 0 c3 (21 + len) (fun j => (recL T P M fl tl).getD j 0) w3 (by omega) hx3 hrc3).mono ?_
            rintro e w4 ⟨rfl, m, rfl⟩
            clear hx3 hrc3 C2
            have z0 := ptr_neq_same
            have z1 : (imported != imported) = false := by simp
            have z2 : (since != since) = false := by simp
            have z3 : (want != want) = false := by simp
            go_wp2_with (fail)
            go_ret
            exact ⟨rfl, B5.out.os, B5.out.tape, B5.out.output, B5.out.size, B5.out.block⟩
        · rw [show admits imp imported pid t since (some want) = true by simp [admits, h1, h2, hq]]
          go_wp2_with (fail)
          refine (C2 w2 (HB2.out.trans (B3.out.mono HB2.out.size))).mono ?_
          rintro e w3 ⟨v3, rfl, own3, B4⟩
          obtain ⟨g3, c3, hv3, hg3, _, hrc3⟩ := rec_cells w3 _ len v3 T P M fl tl htl own3
          rw [hv3]
          clear own3 hv3
          have hx3 : ∀ j, j < 21 + len → w3.cell? ⟨g, 0 + j, none⟩ = some (.int .u8 ((recL T P M fl tl).getD j 0).toNat) := fun j hj => by
            rw [B4.cell (p := ⟨g, 0 + j, none⟩) (Nat.lt_of_lt_of_le hgX B3.out.size), B3.out.cell (p := ⟨g, 0 + j, none⟩) hgX]; exact HXR.out j hj
          have y0 : w3.cell? ⟨w1.heap.size, 0, none⟩ = some (.bool imported) := by
            rw [B4.cell (p := ⟨w1.heap.size, 0, none⟩) (by have := B3.out.size; simp; omega), B3.out.cell (p := ⟨w1.heap.size, 0, none⟩) (by simp; omega)]; exact X0.out
          have y1 : w3.cell? ⟨w1.heap.size, 1, none⟩ = some (.pointer (some ⟨w1.heap.size + 1, 0, none⟩)) := by
            rw [B4.cell (p := ⟨w1.heap.size, 1, none⟩) (by have := B3.out.size; simp; omega), B3.out.cell (p := ⟨w1.heap.size, 1, none⟩) (by simp; omega)]; exact X1.out
          have y2 : w3.cell? ⟨w1.heap.size, 2, none⟩ = some (.int .i64 since) := by
            rw [B4.cell (p := ⟨w1.heap.size, 2, none⟩) (by have := B3.out.size; simp; omega), B3.out.cell (p := ⟨w1.heap.size, 2, none⟩) (by simp; omega)]; exact X2.out
          have y3 : w3.cell? ⟨w1.heap.size + 1, 0, none⟩ = some (.int .i32 want) := by
            rw [B4.cell (p := ⟨w1.heap.size + 1, 0, none⟩) (by have := B3.out.size; simp; omega), B3.out.cell (p := ⟨w1.heap.size + 1, 0, none⟩) (by simp; omega)]; exact X3.out
          have B5 : Hid (Below w.heap.size w w3) := (HB2.out.trans (B3.out.mono HB2.out.size)).trans (B4.mono (Nat.le_trans HB2.out.size B3.out.size))
          clear B4
          go_wp2_with (fail)
          refine (eq_any g 0 c g3 0 c3 (21 + len) (fun j => (recL T P M fl tl).getD j 0) w3 (by omega) hx3 hrc3).mono ?_
          rintro e w4 ⟨rfl, m, rfl⟩
          clear hx3 hrc3 C2
          have z0 := ptr_neq_same
          have z1 : (imported != imported) = false := by simp
          have z2 : (since != since) = false := by simp
          have z3 : (want != want) = false := by simp
          go_wp2_with (fail)
          go_ret
          exact ⟨rfl, B5.out.os, B5.out.tape, B5.out.output, B5.out.size, B5.out.block⟩
  · go_enter Yba.func3, Yba.ntmps3
    go_wp2_with (fail)
    refine C1.mono ?_
    clear C1
    rintro e w1 ⟨v, rfl, own1, B1⟩
    obtain ⟨g, c, hv, hg, hgc, hrc⟩ := rec_cells w1 _ len v T P M fl tl htl own1
    rw [hv]
    clear own1 hv
    have HB1 : Hid (Below w.heap.size w w1) := B1
    have HRC : Hid (∀ j, j < 21 + len → w1.cell? ⟨g, 0 + j, none⟩ = some (.int .u8 ((recL T P M fl tl).getD j 0).toNat)) := hrc
    clear B1 hrc
    go_wp2_with (fail)
    generalize hX : (w1.alloc (.cells #[.bool imported, .pointer (some ⟨w1.heap.size + 1, 0, none⟩), .int .i64 since] 28)).alloc (.cells #[.int .i32 pid] 21) = X
    obtain ⟨b0, b1, bs, bel⟩ := two_new w1 _ _ X hX
    have X0 : Hid (X.cell? ⟨w1.heap.size, 0, none⟩ = some (.bool imported)) := cell_of_row X _ 0 _ _ _ b0
    have X1 : Hid (X.cell? ⟨w1.heap.size, 1, none⟩ = some (.pointer (some ⟨w1.heap.size + 1, 0, none⟩))) := cell_of_row X _ 1 _ _ _ b0
    have X2 : Hid (X.cell? ⟨w1.heap.size, 2, none⟩ = some (.int .i64 since)) := cell_of_row X _ 2 _ _ _ b0
    have X3 : Hid (X.cell? ⟨w1.heap.size + 1, 0, none⟩ = some (.int .i32 pid)) := cell_of_row X _ 0 _ _ _ b1
    have HXR : Hid (∀ j, j < 21 + len → X.cell? ⟨g, 0 + j, none⟩ = some (.int .u8 ((recL T P M fl tl).getD j 0).toNat)) := fun j hj => by rw [bel.cell (p := ⟨g, 0 + j, none⟩) hg]; exact HRC.out j hj
    have hgX : g < X.heap.size := by omega
    have HB2 : Hid (Below w.heap.size w X) := HB1.out.trans (bel.mono HB1.out.size)
    clear hX b0 b1 bel hg
    refine (admits_pid w1.heap.size g (21 + len) c (fun j => (recL T P M fl tl).getD j 0) imp imported t since pid pid (w1.heap.size + 1) X (by omega) hgc hgX (fun j hj => HXR.out j (by omega)) HI.out H8.out X0.out X1.out X2.out X3.out H4.out).mono ?_
    rintro e w2 ⟨rfl, B3'⟩
    have B3 : Hid (Below X.heap.size X w2) := B3'
    clear B3'
    have himp := HIMP.out
    cases h1 : (imp == imported)
    · rw [show admits imp imported pid t since (some pid) = false by simp [admits, h1]]
      go_wp2_with (fail)
      refine (C2 w2 (HB2.out.trans (B3.out.mono HB2.out.size))).mono ?_
      rintro e w3 ⟨v3, rfl, own3, B4⟩
      obtain ⟨g3, c3, hv3, hg3, _, hrc3⟩ := rec_cells w3 _ len v3 T P M fl tl htl own3
      rw [hv3]
      clear own3 hv3
      have hx3 : ∀ j, j < 21 + len → w3.cell? ⟨g, 0 + j, none⟩ = some (.int .u8 ((recL T P M fl tl).getD j 0).toNat) := fun j hj => by
        rw [B4.cell (p := ⟨g, 0 + j, none⟩) (Nat.lt_of_lt_of_le hgX B3.out.size), B3.out.cell (p := ⟨g, 0 + j, none⟩) hgX]; exact HXR.out j hj
      have y0 : w3.cell? ⟨w1.heap.size, 0, none⟩ = some (.bool imported) := by
        rw [B4.cell (p := ⟨w1.heap.size, 0, none⟩) (by have := B3.out.size; simp; omega), B3.out.cell (p := ⟨w1.heap.size, 0, none⟩) (by simp; omega)]; exact X0.out
      have y1 : w3.cell? ⟨w1.heap.size, 1, none⟩ = some (.pointer (some ⟨w1.heap.size + 1, 0, none⟩)) := by
        rw [B4.cell (p := ⟨w1.heap.size, 1, none⟩) (by have := B3.out.size; simp; omega), B3.out.cell (p := ⟨w1.heap.size, 1, none⟩) (by simp; omega)]; exact X1.out
      have y2 : w3.cell? ⟨w1.heap.size, 2, none⟩ = some (.int .i64 since) := by
        rw [B4.cell (p := ⟨w1.heap.size, 2, none⟩) (by have := B3.out.size; simp; omega), B3.out.cell (p := ⟨w1.heap.size, 2, none⟩) (by simp; omega)]; exact X2.out
      have y3 : w3.cell? ⟨w1.heap.size + 1, 0, none⟩ = some (.int .i32 pid) := by
        rw [B4.cell (p := ⟨w1.heap.size + 1, 0, none⟩) (by have := B3.out.size; simp; omega), B3.out.cell (p := ⟨w1.heap.size + 1, 0, none⟩) (by simp; omega)]; exact X3.out
      have B5 : Hid (Below w.heap.size w w3) := (HB2.out.trans (B3.out.mono HB2.out.size)).trans (B4.mono (Nat.le_trans HB2.out.size B3.out.size))
      clear B4
      go_wp2_with (fail)
      refine (eq_any g 0 c g3 0 c3 (21 + len) (fun j => (recL T P M fl tl).getD j 0) w3 (by omega) hx3 hrc3).mono ?_
      rintro e w4 ⟨rfl, m, rfl⟩
      clear hx3 hrc3 C2
      have z0 := ptr_neq_same
      have z1 : (imported != imported) = false := by simp
      have z2 : (since != since) = false := by simp
      have z3 : (pid != pid) = false := by simp
      go_wp2_with (fail)
      go_ret
      exact ⟨rfl, B5.out.os, B5.out.tape, B5.out.output, B5.out.size, B5.out.block⟩
    · have hq : (pid == pid) = true := by simp
      cases h2 : (since == 0)
      · by_cases h3 : since ≤ t
        · rw [show admits imp imported pid t since (some pid) = true by simp [admits, h1, h2, h3]]
          go_wp2_with (fail)
          refine (C2 w2 (HB2.out.trans (B3.out.mono HB2.out.size))).mono ?_
          rintro e w3 ⟨v3, rfl, own3, B4⟩
          obtain ⟨g3, c3, hv3, hg3, _, hrc3⟩ := rec_cells w3 _ len v3 T P M fl tl htl own3
          rw [hv3]
          clear own3 hv3
          have hx3 : ∀ j, j < 21 + len → w3.cell? ⟨g, 0 + j, none⟩ = some (.int .u8 ((recL T P M fl tl).getD j 0).toNat) := fun j hj => by
            rw [B4.cell (p := ⟨g, 0 + j, none⟩) (Nat.lt_of_lt_of_le hgX B3.out.size), B3.out.cell (p := ⟨g, 0 + j, none⟩) hgX]; exact HXR.out j hj
          have y0 : w3.cell? ⟨w1.heap.size, 0, none⟩ = some (.bool imported) := by
            rw [B4.cell (p := ⟨w1.heap.size, 0, none⟩) (by have := B3.out.size; simp; omega), B3.out.cell (p := ⟨w1.heap.size, 0, none⟩) (by simp; omega)]; exact X0.out
          have y1 : w3.cell? ⟨w1.heap.size, 1, none⟩ = some (.pointer (some ⟨w1.heap.size + 1, 0, none⟩)) := by
            rw [B4.cell (p := ⟨w1.heap.size, 1, none⟩) (by have := B3.out.size; simp; omega), B3.out.cell (p := ⟨w1.heap.size, 1, none⟩) (by simp; omega)]; exact X1.out
          have y2 : w3.cell? ⟨w1.heap.size, 2, none⟩ = some (.int .i64 since) := by
            rw [B4.cell (p := ⟨w1.heap.size, 2, none⟩) (by have := B3.out.size; simp; omega), B3.out.cell (p := ⟨w1.heap.size, 2, none⟩) (by simp; omega)]; exact X2.out
          have y3 : w3.cell? ⟨w1.heap.size + 1, 0, none⟩ = some (.int .i32 pid) := by
            rw [B4.cell (p := ⟨w1.heap.size + 1, 0, none⟩) (by have := B3.out.size; simp; omega), B3.out.cell (p := ⟨w1.heap.size + 1, 0, none⟩) (by simp; omega)]; exact X3.out
          have B5 : Hid (Below w.heap.size w w3) := (HB2.out.trans (B3.out.mono HB2.out.size)).trans (B4.mono (Nat.le_trans HB2.out.size B3.out.size))
          clear B4
          go_wp2_with (fail)
          refine (eq_any g 0 c g3 0 c3 (21 + len) (fun j => (recL T P M fl tl).getD j 0) w3 (by omega) hx3 hrc3).mono ?_
          rintro e w4 ⟨rfl, m, rfl⟩
          clear hx3 hrc3 C2
          have z0 := ptr_neq_same
          have z1 : (imported != imported) = false := by simp
          have z2 : (since != since) = false := by simp
          have z3 : (pid != pid) = false := by simp
          go_wp2_with (fail)
          go_ret
          exact ⟨rfl, B5.out.os, B5.out.tape, B5.out.output, B5.out.size, B5.out.block⟩
        · have h3' : decide (since ≤ t) = false := by simp; omega
          rw [show admits imp imported pid t since (some pid) = false by simp [admits, h1, h2, h3]]
          go_wp2_with (fail)
          refine (C2 w2 (HB2.out.trans (B3.out.mono HB2.out.size))).mono ?_
          rintro e w3 ⟨v3, rfl, own3, B4⟩
          obtain ⟨g3, c3, hv3, hg3, _, hrc3⟩ := rec_cells w3 _ len v3 T P M fl tl htl own3
          rw [hv3]
          clear own3 hv3
          have hx3 : ∀ j, j < 21 + len → w3.cell? ⟨g, 0 + j, none⟩ = some (.int .u8 ((recL T P M fl tl).getD j 0).toNat) := fun j hj => by
            rw [B4.cell (p := ⟨g, 0 + j, none⟩) (Nat.lt_of_lt_of_le hgX B3.out.size), B3.out.cell (p := ⟨g, 0 + j, none⟩) hgX]; exact HXR.out j hj
          have y0 : w3.cell? ⟨w1.heap.size, 0, none⟩ = some (.bool imported) := by
            rw [B4.cell (p := ⟨w1.heap.size, 0, none⟩) (by have := B3.out.size; simp; omega), B3.out.cell (p := ⟨w1.heap.size, 0, none⟩) (by simp; omega)]; exact X0.out
          have y1 : w3.cell? ⟨w1.heap.size, 1, none⟩ = some (.pointer (some ⟨w1.heap.size + 1, 0, none⟩)) := by
            rw [B4.cell (p := ⟨w1.heap.size, 1, none⟩) (by have := B3.out.size; simp; omega), B3.out.cell (p := ⟨w1.heap.size, 1, none⟩) (by simp; omega)]; exact X1.out
          have y2 : w3.cell? ⟨w1.heap.size, 2, none⟩ = some (.int .i64 since) := by
            rw [B4.cell (p := ⟨w1.heap.size, 2, none⟩) (by have := B3.out.size; simp; omega), B3.out.cell (p := ⟨w1.heap.size, 2, none⟩) (by simp; omega)]; exact X2.out
          have y3 : w3.cell? ⟨w1.heap.size + 1, 0, none⟩ = some (.int .i32 pid) := by
            rw [B4.cell (p := ⟨w1.heap.size + 1, 0, none⟩) (by have := B3.out.size; simp; omega), B3.out.cell (p := ⟨w1.heap.size + 1, 0, none⟩) (by simp; omega)]; exact X3.out
          have B5 : Hid (Below w.heap.size w w3) := (HB2.out.trans (B3.out.mono HB2.out.size)).trans (B4.mono (Nat.le_trans HB2.out.size B3.out.size))
          clear B4
          go_wp2_with (fail)
          refine (eq_any g 0 c g3 0 c3 (21 + len) (fun j => (recL T P M fl tl).getD j 0) w3 (by omega) hx3 hrc3).mono ?_
          rintro e w4 ⟨rfl, m, rfl⟩
          clear hx3 hrc3 C2
          have z0 := ptr_neq_same
          have z1 : (imported != imported) = false := by simp
          have z2 : (since != since) = false := by simp
          have z3 : (pid != pid) = false := by simp
          go_wp2_with (fail)
          go_ret
          exact ⟨rfl, B5.out.os, B5.out.tape, B5.out.output, B5.out.size, B5.out.block⟩
      · rw [show admits imp imported pid t since (some pid) = true by simp [admits, h1, h2]]
        go_wp2_with (fail)
        refine (C2 w2 (HB2.out.trans (B3.out.mono HB2.out.size))).mono ?_
        rintro e w3 ⟨v3, rfl, own3, B4⟩
        obtain ⟨g3, c3, hv3, hg3, _, hrc3⟩ := rec_cells w3 _ len v3 T P M fl tl htl own3
        rw [hv3]
        clear own3 hv3
        have hx3 : ∀ j, j < 21 + len → w3.cell? ⟨g, 0 + j, none⟩ = some (.int .u8 ((recL T P M fl tl).getD j 0).toNat) := fun j hj => by
          rw [B4.cell (p := ⟨g, 0 + j, none⟩) (Nat.lt_of_lt_of_le hgX B3.out.size), B3.out.cell (p := ⟨g, 0 + j, none⟩) hgX]; exact HXR.out j hj
        have y0 : w3.cell? ⟨w1.heap.size, 0, none⟩ = some (.bool imported) := by
          rw [B4.cell (p := ⟨w1.heap.size, 0, none⟩) (by have := B3.out.size; simp; omega), B3.out.cell (p := ⟨w1.heap.size, 0, none⟩) (by simp; omega)]; exact X0.out
        have y1 : w3.cell? ⟨w1.heap.size, 1, none⟩ = some (.pointer (some ⟨w1.heap.size + 1, 0, none⟩)) := by
          rw [B4.cell (p := ⟨w1.heap.size, 1, none⟩) (by have := B3.out.size; simp; omega), B3.out.cell (p := ⟨w1.heap.size, 1, none⟩) (by simp; omega)]; exact X1.out
        have y2 : w3.cell? ⟨w1.heap.size, 2, none⟩ = some (.int .i64 since) := by
          rw [B4.cell (p := ⟨w1.heap.size, 2, none⟩) (by have := B3.out.size; simp; omega), B3.out.cell (p := ⟨w1.heap.size, 2, none⟩) (by simp; omega)]; exact X2.out
        have y3 : w3.cell? ⟨w1.heap.size + 1, 0, none⟩ = some (.int .i32 pid) := by
          rw [B4.cell (p := ⟨w1.heap.size + 1, 0, none⟩) (by have := B3.out.size; simp; omega), B3.out.cell (p := ⟨w1.heap.size + 1, 0, none⟩) (by simp; omega)]; exact X3.out
        have B5 : Hid (Below w.heap.size w w3) := (HB2.out.trans (B3.out.mono HB2.out.size)).trans (B4.mono (Nat.le_trans HB2.out.size B3.out.size))
        clear B4
        go_wp2_with (fail)
        refine (eq_any g 0 c g3 0 c3 (21 + len) (fun j => (recL T P M fl tl).getD j 0) w3 (by omega) hx3 hrc3).mono ?_
        rintro e w4 ⟨rfl, m, rfl⟩
        clear hx3 hrc3 C2
        have z0 := ptr_neq_same
        have z1 : (imported != imported) = false := by simp
        have z2 : (since != since) = false := by simp
        have z3 : (pid != pid) = false := by simp
        go_wp2_with (fail)
        go_ret
        exact ⟨rfl, B5.out.os, B5.out.tape, B5.out.output, B5.out.size, B5.out.block⟩
#print axioms law_pid
theorem law_long (v0 v1 v2 v3 v4 v5 v6 v7 v8 : Value) (a : Option Addr) (len cap : Nat) (w : World) (hl : 1024 < len) :
    Calls Yba.prog 3 #[v0, v1, v2, v3, v4, v5, v6, v7, v8, .slice a len cap] w fun e w' => e = .returned (.bool true) ∧ Below w.heap.size w w' := by
  have hl' : (1024 : Int) < (len : Int) := by omega
  go_enter Yba.func3, Yba.ntmps3
  go_wp2_with (fail)
  go_ret
  exact ⟨rfl, Below.refl _ _⟩

end Go.Proofs.Ybulkbjlo
