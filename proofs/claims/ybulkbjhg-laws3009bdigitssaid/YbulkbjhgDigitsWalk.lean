/-
  THE WALK OF LawS3009BDigits (4).
-/
import Derived.Test.YbulkbjhgExactWalk
import Derived.Laws.BytesArg
namespace Go.Proofs.Ybulkbjhg
open Go.RowKit Go.Sort

/-- The digits that the law builds: p zeros, then each byte's last decimal digit. -/
def digs (p : Nat) (ds : List UInt8) : List UInt8 := List.replicate p 48 ++ ds.map fun d => 48 + d % 10
def cellsOf (l : List UInt8) : List Value := l.map fun c => Value.int .u8 c.toNat

theorem make_row (n : Nat) (hn : n ≤ 2048) (w : World) :
    (Instr.makeSlice 22 (.int .i64 0) (.int .i64 (n : Int))).run Yba.prog w = .ok (.slice (some ⟨w.heap.size, 0, none⟩) 0 n) (w.alloc (.cells (madeCells #[.int .u8 0] n) 5)) := by
  obtain ⟨i, hi, hz⟩ := Option.map_eq_some_iff.1 (show (Yba.prog.info? 5).map (fun i => (i.zero, i.size, i.bytes)) = some (some (.int .u8 0), 1, 1) by kernel_rfl)
  simp only [Prod.mk.injEq] at hz
  obtain ⟨hz0, hz1, hz2⟩ := hz
  have h := run_make (P := Yba.prog) w 22 5 i (.int .u8 0) Yba.underlying22 hi hz0 .i64 .i64 0 (n : Int) (by omega) (by omega) (by rw [hz2]; omega) (by omega)
  rw [hz1] at h
  simpa [Value.cells] using h

theorem digs_snoc (p : Nat) (ds : List UInt8) (j : Nat) (h : j < ds.length) : cellsOf (digs p (ds.take (j + 1))) = cellsOf (digs p (ds.take j)) ++ [Value.int .u8 (48 + ((ds.getD j 0).toNat : Int) % 10)] := by
  have e : ((48 + ds.getD j 0 % 10 : UInt8).toNat : Int) = 48 + ((ds.getD j 0).toNat : Int) % 10 := by
    have h2 := (ds.getD j 0).toNat_lt
    rw [UInt8.toNat_add, UInt8.toNat_mod]
    show (((48 + (ds.getD j 0).toNat % 10) % 2 ^ 8 : Nat) : Int) = _
    omega
  rw [← e, List.take_succ_eq_append_getElem h, show ds[j] = ds.getD j 0 by simp [List.getD, h]]
  simp [cellsOf, digs]
theorem digs_length (p : Nat) (ds : List UInt8) : (digs p ds).length = p + ds.length := by simp [digs]
theorem digs_dec (p : Nat) (ds : List UInt8) : Ak.dec (digs p ds) = true := by
  rw [Ak.dec, List.all_eq_true]
  intro c hc
  rcases List.mem_append.1 hc with h | h
  · rw [List.eq_of_mem_replicate h]; rfl
  · obtain ⟨d, _, rfl⟩ := List.mem_map.1 h
    have e : (48 + d % 10 : UInt8).toNat = 48 + d.toNat % 10 := by
      have h2 := d.toNat_lt
      rw [UInt8.toNat_add, UInt8.toNat_mod]
      show (48 + d.toNat % 10) % 2 ^ 8 = _
      omega
    simp only [Ak.isD, e, Bool.and_eq_true, decide_eq_true_eq]
    omega
theorem num_pad (p : Nat) (l : List UInt8) : Ak.num (List.replicate p 48 ++ l) = Ak.num l := by
  have h : (List.replicate p (48 : UInt8)).foldl Ak.numStep 0 = 0 := by
    induction p with
    | zero => rfl
    | succ p ih => rw [List.replicate_succ, List.foldl_cons]; exact ih
  rw [Ak.num, List.foldl_append, h, Ak.num]
/-- A list of bytes as a string. -/
theorem str_of (l : List UInt8) : (strOfNums (l.map fun c => (c.toNat : Int))).data.toList = l ∧ (strOfNums (l.map fun c => (c.toNat : Int))).size = l.length := by
  refine ⟨?_, by rw [strOfNums_size, List.length_map]⟩
  rw [strOfNums_data, List.map_map]
  conv => rhs; rw [← List.map_id l]
  apply List.map_congr_left
  intro c _
  simp
theorem ints_getD (l : List UInt8) (i : Nat) (h : i < l.length) : (l.map fun c => (c.toNat : Int)).getD i 0 = ((l.getD i 0).toNat : Int) := by
  simp [List.getD, h]

set_option maxRecDepth 100000 in
set_option maxHeartbeats 2000000 in
theorem digits_walk (a0 : Option Addr) (len cap : Nat) (ds : List UInt8) (a1 : Int) (p : Nat) (w : World) (hl : len ≤ 1024) (h0 : 0 ≤ a1) (h1 : a1 ≤ 255) (hp : a1 % 8 = (p : Int)) (hp8 : p < 8) (hds : ds.length = len)
    (hcell : ∀ j, j < len → ∃ b off, a0 = some ⟨b, off, none⟩ ∧ b < w.heap.size ∧ w.cell? ⟨b, off + j, none⟩ = some (.int .u8 (ds.getD j 0).toNat)) :
    Calls Yba.prog 4 #[.slice a0 len cap, .int .u8 a1] w fun e w' => e = .returned (.bool true) ∧ Below w.heap.size w w' := by
  obtain ⟨i0, hi, hz0⟩ := Option.map_eq_some_iff.1 (show (Yba.prog.info? 5).map (fun i => (i.zero, i.size, i.bytes)) = some (some (.int .u8 0), 1, 1) by kernel_rfl)
  simp only [Prod.mk.injEq] at hz0
  obtain ⟨hz0, hz1, hz2⟩ := hz0
  have hmk := make_row (len + p) (by omega)
  rw [show ((len + p : Nat) : Int) = (len : Int) + (p : Int) by omega] at hmk
  have HC : Hid (∀ j, j < len → ∃ b off, a0 = some ⟨b, off, none⟩ ∧ b < w.heap.size ∧ w.cell? ⟨b, off + j, none⟩ = some (.int .u8 (ds.getD j 0).toNat)) := hcell
  clear hcell
  go_enter Yba.func4, Yba.ntmps4
  go_wp2_with (fail)
  generalize hW : w.alloc (.cells (madeCells #[.int .u8 0] (len + p)) 5) = W
  have hown : W.ownsRow w.heap.size 5 1 (.slice (some ⟨w.heap.size, 0, none⟩) 0 (len + p)) 0 [] :=
    ⟨rfl, .inr ⟨w.heap.size, len + p, _, rfl, Nat.le_refl _, by rw [← hW]; exact heap_alloc_new w _, Nat.zero_le _, by unfold maxLen; omega, by rw [size_madeCells, Nat.mul_one], by simp⟩⟩
  have bel : Below w.heap.size w W := by rw [← hW]; exact (Below.refl _ _).alloc (Nat.le_refl _) _
  have HO : Hid (W.ownsRow w.heap.size 5 1 (.slice (some ⟨w.heap.size, 0, none⟩) 0 (len + p)) 0 []) := hown
  have HB : Hid (Below w.heap.size w W) := bel
  clear hW hmk hown bel hp h0 h1
  go_loopw [6, 7] (fun vb vi wr => ∃ k : Nat, k ≤ p ∧ vi = .int .i64 k ∧ wr.ownsRow w.heap.size 5 1 vb k (cellsOf (digs k [])) ∧ vb ≠ .slice none 0 0 ∧ Below w.heap.size w wr) (fun _ vi _ => p - (intOf vi).toNat)
  case atStart => exact ⟨0, Nat.zero_le _, rfl, HO.out, by simp, HB.out⟩
  case round =>
    obtain ⟨k, hk, rfl, own1, nn1, bel1⟩ := hrel
    have HN1 : Hid (u6 ≠ .slice none 0 0) := nn1
    have HO1 : Hid (wr.ownsRow w.heap.size 5 1 u6 k (cellsOf (digs k []))) := own1
    have HB1 : Hid (Below w.heap.size w wr) := bel1
    clear own1 bel1 HO HB nn1
    by_cases hlt : k < p
    · go_wp2_with (at_builtin; refine wpList_append_own _ rfl _ _ 22 rfl w.heap.size 5 i0 (.int .u8 0) 1 1 Yba.underlying22 hi hz0 hz1 hz2 rfl (by decide) _ _ _ rfl (HO1.out.alloc _) _ 1 1 [Value.int .u8 48] rfl rfl ?c1 ?c2 ?c3 ?c4 ?c5 ?_)
      case c1 =>
        intro j u hj
        match j, hj with
        | 0, hj => simp at hj; subst hj; simp [Addr.add]
      case c2 => intro u hu; simp at hu; subst hu; rfl
      case c3 => unfold maxLen; omega
      case c4 => omega
      case c5 => have := HB1.out.size; simp; omega
      intro v' w2 hown' hgrow hnn
      have HN2 : Hid (v' ≠ .slice none 0 0) := fun h => hnn h
      have HO2 : Hid (w2.ownsRow w.heap.size 5 1 v' (k + 1) (cellsOf (digs (k + 1) []))) := by
        have e : cellsOf (digs (k + 1) []) = cellsOf (digs k []) ++ [Value.int .u8 48] := by simp [cellsOf, digs, List.replicate_succ']
        show w2.ownsRow w.heap.size 5 1 v' (k + 1) (cellsOf (digs (k + 1) []))
        rw [e]
        exact hown'
      have HB2 : Hid (Below w.heap.size w w2) := (HB1.out.alloc HB1.out.size _).grown hgrow (by have := HB1.out.size; simp; omega) (fun j hj => (HO1.out.lt j hj).1)
      clear hown' hgrow hnn
      go_wp2
      go_roundw
      case rel =>
        exact ⟨k + 1, by omega, by go_num, HO2.out, HN2.out, HB2.out⟩
      case measure => simp [intOf]; omega
    · obtain rfl : k = p := by omega
      go_wp2_with (fail)
      go_loopw [6, 8] (fun vb vi wr => ∃ j : Nat, j ≤ len ∧ vi = .int .i64 j ∧ wr.ownsRow w.heap.size 5 1 vb (k + j) (cellsOf (digs k (ds.take j))) ∧ vb ≠ .slice none 0 0 ∧ Below w.heap.size w wr) (fun _ vi _ => len - (intOf vi).toNat)
      case atStart => exact ⟨0, Nat.zero_le _, rfl, HO1.out, HN1.out, HB1.out⟩
      case round =>
        clear HO1 HB1 HN1 hlt hk
        obtain ⟨j, hj, rfl, own1, nn1, bel1⟩ := hrel
        have HN1 : Hid (u6 ≠ .slice none 0 0) := nn1
        rename World => wq
        have HO1 : Hid (wq.ownsRow w.heap.size 5 1 u6 (k + j) (cellsOf (digs k (ds.take j)))) := own1
        have HB1 : Hid (Below w.heap.size w wq) := bel1
        clear own1 bel1 nn1
        by_cases hlt : j < len
        · obtain ⟨b, off, rfl, hb, hcj⟩ := HC.out j hlt
          obtain ⟨d, hd⟩ : ∃ d, ds.getD j 0 = d := ⟨_, rfl⟩
          rw [hd] at hcj
          have hcq : wq.cell? ⟨b, off + j, none⟩ = some (.int .u8 d.toNat) := by rw [HB1.out.cell (p := ⟨b, off + j, none⟩) hb]; exact hcj
          have hdl := d.toNat_lt
          go_wp2_with (at_builtin; refine wpList_append_own _ rfl _ _ 22 rfl w.heap.size 5 i0 (.int .u8 0) 1 1 Yba.underlying22 hi hz0 hz1 hz2 rfl (by decide) _ _ _ rfl (HO1.out.alloc _) _ 1 1 [Value.int .u8 (48 + (d.toNat : Int) % 10)] rfl rfl ?c1 ?c2 ?c3 ?c4 ?c5 ?_)
          case c1 =>
            intro j u hj
            match j, hj with
            | 0, hj => simp at hj; subst hj; simp [Addr.add]
          case c2 => intro u hu; simp at hu; subst hu; rfl
          case c3 => unfold maxLen; omega
          case c4 => omega
          case c5 => have := HB1.out.size; simp; omega
          intro v' w2 hown' hgrow hnn
          have HN2 : Hid (v' ≠ .slice none 0 0) := fun h => hnn h
          have HO2 : Hid (w2.ownsRow w.heap.size 5 1 v' (k + (j + 1)) (cellsOf (digs k (ds.take (j + 1))))) := by
            show w2.ownsRow w.heap.size 5 1 v' (k + (j + 1)) (cellsOf (digs k (ds.take (j + 1))))
            rw [digs_snoc k ds j (by omega), hd]
            exact hown'
          have HB2 : Hid (Below w.heap.size w w2) := (HB1.out.alloc HB1.out.size _).grown hgrow (by have := HB1.out.size; simp; omega) (fun j hj => (HO1.out.lt j hj).1)
          clear hown' hgrow hnn
          go_wp2
          go_roundw
          case rel =>
            exact ⟨j + 1, by omega, by go_num, HO2.out, HN2.out, HB2.out⟩
          case measure => simp [intOf]; omega
        · obtain rfl : j = len := by omega
          obtain ⟨hlen, ⟨hnil, _⟩ | ⟨g, cap', cur, rfl, _, hg, hn, hcm, hsz, htk⟩⟩ := HO1.out
          · exact absurd hnil HN1.out
          have htd : ds.take j = ds := List.take_of_length_le (by omega)
          rw [htd] at htk
          have hcell : ∀ i, i < k + j → wq.cell? ⟨g, 0 + i, none⟩ = some (.int .u8 ((digs k ds).getD i 0).toNat) := fun i hi => by
            rw [cell_of_row _ _ _ _ _ _ hg, Nat.zero_add, ← Array.getElem?_toList]
            have h2 : (cur.toList.take ((k + j) * 1))[i]? = cur.toList[i]? := by rw [List.getElem?_take, if_pos (by omega)]
            rw [← h2, htk]
            simp [cellsOf, List.getD, digs_length, hds, hi]
          have cv1 := run_convert_bytes_arg (P := Yba.prog) wq 22 5 Yba.underlying22 Yba.underlying5 g k j (cap' - k) ((ds.map fun d => 48 + d % 10).map fun c => (c.toNat : Int)) (by simp [hds]) (fun i hi => by
            have := hcell (k + i) (by omega)
            rw [Nat.zero_add] at this
            rw [this, ints_getD _ _ (by simp [hds]; exact hi)]
            congr 4
            simp [digs, List.getD, List.getElem?_append_right]) 9 Yba.underlying9
          have cv2 := run_convert_bytes_arg (P := Yba.prog) wq 22 5 Yba.underlying22 Yba.underlying5 g 0 (k + j) cap' ((digs k ds).map fun c => (c.toNat : Int)) (by simp [digs_length, hds]) (fun i hi => by
            rw [hcell i hi, ints_getD _ _ (by rw [digs_length, hds]; exact hi)]) 9 Yba.underlying9
          obtain ⟨s1d, s1n⟩ := str_of (ds.map fun d => 48 + d % 10)
          obtain ⟨s2d, s2n⟩ := str_of (digs k ds)
          generalize strOfNums ((ds.map fun d => 48 + d % 10).map fun c => (c.toNat : Int)) = S1 at *
          generalize strOfNums ((digs k ds).map fun c => (c.toNat : Int)) = S2 at *
          rw [List.length_map, hds] at s1n
          rw [digs_length, hds] at s2n
          have S1D : Hid (S1.data.toList = ds.map fun d => 48 + d % 10) := s1d
          have S2D : Hid (S2.data.toList = digs k ds) := s2d
          have S1N : Hid (S1.size = j) := s1n
          have S2N : Hid (S2.size = k + j) := s2n
          clear hlen hg hsz htk hcell s1d s2d s1n s2n HO1
          have hkn : (k : Int) ≤ ((k + j : Nat) : Int) := by omega
          have cv3 : cap' = k → (convert 22 9 (.slice (some ⟨g, 0, none⟩) 0 0)).run Yba.prog wq = .ok (.string S1) wq := by
            intro hck
            have hj0 : j = 0 := by omega
            have h1 : S1.size = 0 := by rw [S1N.out, hj0]
            have h2 : S1 = strOfNums [] := by
              apply ByteArray.ext
              apply Array.ext
              · exact h1
              · intro i hi; exact absurd hi (by have : S1.data.size = 0 := h1; omega)
            rw [h2]
            exact run_convert_bytes_arg (P := Yba.prog) wq 22 5 Yba.underlying22 Yba.underlying5 g 0 0 0 [] rfl (fun i hi => by omega) 9 Yba.underlying9
          have HNUM : Hid (Ak.num S2.data.toList = Ak.num S1.data.toList) := by show _ = _; rw [S1D.out, S2D.out, digs, num_pad]
          have HDEC : Hid (Ak.dec S2.data.toList = true) := by show _ = _; rw [S2D.out, digs_dec]
          by_cases hck : cap' = k
          all_goals
            first | (have cv4 := cv3 hck; clear cv3) | (clear cv3)
            first | (subst hck) | skip
            go_wp2_with (fail)
            clear cv1 cv2
            by_cases hlo : S2.size < 1 ∨ 20 < S2.size
            · refine (akey_len S2 _ hlo (by rw [S2N.out]; omega)).mono ?_
              rintro e w5 ⟨ad, rfl, B5⟩
              have HB5 : Hid (Below w.heap.size w w5) := HB1.out.trans (B5.mono HB1.out.size)
              have hsn := fun (W : World) => Lib.run_eql_slice_nil (P := Yba.prog) W 22 5 none 0 0 0 0 Yba.underlying22
              clear B5
              rcases hlo with hlo | hlo
              · have hlo' : (S2.size : Int) < 1 := by omega
                go_wp2_with (fail)
                go_ret
                exact ⟨rfl, HB5.out⟩
              · have hlo' : ¬ (S2.size : Int) < 1 := by omega
                have hlo2 : 20 < (S2.size : Int) := by omega
                go_wp2_with (fail)
                go_ret
                exact ⟨rfl, HB5.out⟩
            · refine (akey_good S2 _ (by omega) (by omega) HDEC.out).mono ?_
              rintro e w5 ⟨v', w0, rfl, own, B0, B1⟩
              rw [HNUM.out] at own
              obtain ⟨g5, cap5, hv', hg5, hcells⟩ := got_cells w5 _ _ v' (Ak.num_lt _) own
              rw [hv']
              have BB : Hid (Below w.heap.size w w5) := HB1.out.trans ((B0.trans (B1.mono B0.size)).mono HB1.out.size)
              have hlo' : ¬ (S2.size : Int) < 1 := by omega
              have hlo2 : ¬ 20 < (S2.size : Int) := by omega
              clear B0 B1 own hv'
              go_wp2_with (fail)
              refine (model_any S1 _ (by rw [S1N.out]; have := S2N.out; omega)).mono ?_
              rintro e w6 ⟨rfl, B6⟩
              have hc2 : ∀ j, j < 8 → w6.cell? ⟨g5, 0 + j, none⟩ = some (.int .u8 (Ak.oct (Ak.num S1.data.toList) j).toNat) := fun j hj => by rw [B6.cell (p := ⟨g5, 0 + j, none⟩) hg5]; exact hcells j hj
              have hg2 : g5 < w6.heap.size := Nat.lt_of_lt_of_le hg5 B6.size
              have B7 : Hid (Below w.heap.size w w6) := BB.out.trans (B6.mono BB.out.size)
              clear hcells hg5 B6
              go_wp2_with (fail)
              refine (same_any g5 cap5 (Ak.oct (Ak.num S1.data.toList)) w6 hg2 hc2).mono ?_
              rintro e w7 ⟨rfl, B8⟩
              have B9 : Hid (Below w.heap.size w w7) := B7.out.trans (B8.mono B7.out.size)
              clear B8 hc2 hg2
              go_wp2_with (fail)
              go_ret
              exact ⟨rfl, B9.out⟩
#print axioms digits_walk
set_option maxRecDepth 100000 in
theorem digits_long (a0 : Option Addr) (len cap : Nat) (a1 : Int) (w : World) (hl : 1024 < (len : Int)) :
    Calls Yba.prog 4 #[.slice a0 len cap, .int .u8 a1] w fun e w' => e = .returned (.bool true) ∧ Below w.heap.size w w' := by
  go_enter Yba.func4, Yba.ntmps4
  go_wp2_with (fail)
  go_ret
  exact ⟨rfl, Below.refl _ _⟩
end Go.Proofs.Ybulkbjhg
