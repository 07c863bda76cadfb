/-
  THE WALKS OF zzs3017arec (4) AND zzs3017aeq (6).
-/
import Derived.Test.YbulkbjloAdmits
import Derived.Lib.Endian
import Derived.Laws.AppendOwnNone
namespace Go.Proofs.Ybulkbjlo
open Go.RowKit Go.Sort

/-- Byte i of a number, the least first. -/
def lb (n i : Nat) : UInt8 := UInt8.ofNat (n / 256 ^ i)
def lbs (n : Nat) : Nat → List UInt8
  | 0 => []
  | k + 1 => lbs n k ++ [lb n k]
theorem lbs_length (n k : Nat) : (lbs n k).length = k := by
  induction k with
  | zero => rfl
  | succ k ih => rw [lbs, List.length_append, ih]; rfl
def cellsOf (l : List UInt8) : List Value := l.map fun c => Value.int .u8 c.toNat
/-- The record. -/
def recL (T P M : Nat) (fl : UInt8) (tl : List UInt8) : List UInt8 := lbs T 8 ++ lbs P 4 ++ lbs M 8 ++ [fl] ++ tl

theorem make_row (n : Nat) (hn : n ≤ 2048) (w : World) :
    (Instr.makeSlice 23 (.int .i64 0) (.int .i64 (n : Int))).run Yba.prog w = .ok (.slice (some ⟨w.heap.size, 0, none⟩) 0 n) (w.alloc (.cells (madeCells #[.int .u8 0] n) 5)) := by
  obtain ⟨i, hi, hz⟩ := Option.map_eq_some_iff.1 (show (Yba.prog.info? 5).map (fun i => (i.zero, i.size, i.bytes)) = some (some (.int .u8 0), 1, 1) by kernel_rfl)
  simp only [Prod.mk.injEq] at hz
  obtain ⟨hz0, hz1, hz2⟩ := hz
  have h := run_make (P := Yba.prog) w 23 5 i (.int .u8 0) Yba.underlying23 hi hz0 .i64 .i64 0 (n : Int) (by omega) (by omega) (by rw [hz2]; omega) (by omega)
  rw [hz1] at h
  simpa [Value.cells] using h

theorem cells_snoc (pre : List UInt8) (X k : Nat) (e : Int) (he : ((lb X k).toNat : Int) = e) : cellsOf (pre ++ lbs X (k + 1)) = cellsOf (pre ++ lbs X k) ++ [Value.int .u8 e] := by
  rw [← he, lbs, ← List.append_assoc]
  simp [cellsOf]

set_option maxRecDepth 100000 in
set_option maxHeartbeats 2000000 in
theorem arec_any (t pid : Int) (T P M : Nat) (fl : UInt8) (a : Option Addr) (len cap : Nat) (tl : List UInt8) (w : World) (hT : IntKind.u64.wrap t = (T : Int)) (hT2 : T < 18446744073709551616) (hP : IntKind.u32.wrap pid = (P : Int)) (hP2 : P < 4294967296) (hM : M < 18446744073709551616)
    (hl : len ≤ 1024) (htl : tl.length = len) (hnil : a = none → len = 0 ∧ cap = 0) (hcell : ∀ j, j < len → ∃ b off, a = some ⟨b, off, none⟩ ∧ b < w.heap.size ∧ w.cell? ⟨b, off + j, none⟩ = some (.int .u8 (tl.getD j 0).toNat)) :
    Calls Yba.prog 4 #[.int .i64 t, .int .i32 pid, .int .u64 M, .int .u8 fl.toNat, .slice a len cap] w fun e w' =>
      ∃ v, e = .returned v ∧ w'.ownsRow w.heap.size 5 1 v (21 + len) (cellsOf (recL T P M fl tl)) ∧ Below w.heap.size w w' := by
  obtain ⟨i0, hi, hz0⟩ := Option.map_eq_some_iff.1 (show (Yba.prog.info? 5).map (fun i => (i.zero, i.size, i.bytes)) = some (some (.int .u8 0), 1, 1) by kernel_rfl)
  simp only [Prod.mk.injEq] at hz0
  obtain ⟨hz0, hz1, hz2⟩ := hz0
  have hmk := make_row (21 + len) (by omega)
  rw [show ((21 + len : Nat) : Int) = 21 + (len : Int) by omega] at hmk
  have HC : Hid (∀ j, j < len → ∃ b off, a = some ⟨b, off, none⟩ ∧ b < w.heap.size ∧ w.cell? ⟨b, off + j, none⟩ = some (.int .u8 (tl.getD j 0).toNat)) := hcell
  have HP : Hid (IntKind.u32.wrap pid = (P : Int)) := hP
  have HNIL : Hid (a = none → len = 0 ∧ cap = 0) := hnil
  clear hcell hP hnil
  go_enter Yba.func4, Yba.ntmps4
  go_wp2_with (fail)
  clear hT
  generalize hW : w.alloc (.cells (madeCells #[.int .u8 0] (21 + len)) 5) = W
  have hown : W.ownsRow w.heap.size 5 1 (.slice (some ⟨w.heap.size, 0, none⟩) 0 (21 + len)) 0 [] :=
    ⟨rfl, .inr ⟨w.heap.size, 21 + len, _, rfl, Nat.le_refl _, by rw [← hW]; exact heap_alloc_new w _, Nat.zero_le _, by unfold maxLen; omega, by rw [size_madeCells, Nat.mul_one], by simp⟩⟩
  have bel : Below w.heap.size w W := by rw [← hW]; exact (Below.refl _ _).alloc (Nat.le_refl _) _
  have HO : Hid (W.ownsRow w.heap.size 5 1 (.slice (some ⟨w.heap.size, 0, none⟩) 0 (21 + len)) 0 []) := hown
  have HB : Hid (Below w.heap.size w W) := bel
  clear hW hmk hown bel
  go_loopw [11, 13] (fun vb vi wr => ∃ k : Nat, k ≤ 8 ∧ vi = .int .i64 k ∧ wr.ownsRow w.heap.size 5 1 vb (k) (cellsOf (([] : List UInt8) ++ lbs T k)) ∧ Below w.heap.size w wr) (fun _ vi _ => 8 - (intOf vi).toNat)
  case atStart => exact ⟨0, Nat.zero_le _, rfl, by simpa [lbs, cellsOf] using HO.out, HB.out⟩
  case round =>
    clear HO HB
    obtain ⟨k, hk, rfl, own1, bel1⟩ := hrel
    rename World => wq1
    have HO : Hid (wq1.ownsRow w.heap.size 5 1 u11 (k) (cellsOf (([] : List UInt8) ++ lbs T k))) := own1
    have HB : Hid (Below w.heap.size w wq1) := bel1
    clear own1 bel1
    by_cases hlt : k < 8
    · have hc : k = 0 ∨ k = 1 ∨ k = 2 ∨ k = 3 ∨ k = 4 ∨ k = 5 ∨ k = 6 ∨ k = 7 := by omega
      rcases hc with rfl | rfl | rfl | rfl | rfl | rfl | rfl | rfl
      · go_wp2_with (at_builtin; refine wpList_append_own _ rfl _ _ 23 rfl w.heap.size 5 i0 (.int .u8 0) 1 1 Yba.underlying23 hi hz0 hz1 hz2 rfl (by decide) _ _ _ rfl (HO.out.alloc _) _ 1 1 [Value.int .u8 (((T : Nat) : Int) % 256)] rfl rfl ?c1 ?c2 ?c3 ?c4 ?c5 ?_)
        case c1 =>
          intro j u hj
          match j, hj with
          | 0, hj => simp at hj; subst hj; simp [Addr.add]
        case c2 => intro u hu; simp at hu; subst hu; rfl
        case c3 => unfold maxLen; omega
        case c4 => omega
        case c5 => have := HB.out.size; simp; omega
        intro v' w2 hown' hgrow _
        have HO2 : Hid (w2.ownsRow w.heap.size 5 1 v' (1) (cellsOf (([] : List UInt8) ++ lbs T 1))) := by
          show w2.ownsRow w.heap.size 5 1 v' (1) (cellsOf (([] : List UInt8) ++ lbs T (0 + 1)))
          rw [cells_snoc ([] : List UInt8) T 0 (((T : Nat) : Int) % 256) (by simp only [lb, UInt8.toNat_ofNat', Nat.reducePow]; omega)]
          exact hown'
        have HB2 : Hid (Below w.heap.size w w2) := (HB.out.alloc HB.out.size _).grown hgrow (by have := HB.out.size; simp; omega) (fun j hj => (HO.out.lt j hj).1)
        clear hown' hgrow
        go_wp2_with (fail)
        go_roundw
        case rel => exact ⟨1, by omega, rfl, HO2.out, HB2.out⟩
        case measure => simp [intOf]
      · go_wp2_with (at_builtin; refine wpList_append_own _ rfl _ _ 23 rfl w.heap.size 5 i0 (.int .u8 0) 1 1 Yba.underlying23 hi hz0 hz1 hz2 rfl (by decide) _ _ _ rfl (HO.out.alloc _) _ 1 1 [Value.int .u8 (((T : Nat) : Int) / 256 % 256)] rfl rfl ?c1 ?c2 ?c3 ?c4 ?c5 ?_)
        case c1 =>
          intro j u hj
          match j, hj with
          | 0, hj => simp at hj; subst hj; simp [Addr.add]
        case c2 => intro u hu; simp at hu; subst hu; rfl
        case c3 => unfold maxLen; omega
        case c4 => omega
        case c5 => have := HB.out.size; simp; omega
        intro v' w2 hown' hgrow _
        have HO2 : Hid (w2.ownsRow w.heap.size 5 1 v' (2) (cellsOf (([] : List UInt8) ++ lbs T 2))) := by
          show w2.ownsRow w.heap.size 5 1 v' (2) (cellsOf (([] : List UInt8) ++ lbs T (1 + 1)))
          rw [cells_snoc ([] : List UInt8) T 1 (((T : Nat) : Int) / 256 % 256) (by simp only [lb, UInt8.toNat_ofNat', Nat.reducePow]; omega)]
          exact hown'
        have HB2 : Hid (Below w.heap.size w w2) := (HB.out.alloc HB.out.size _).grown hgrow (by have := HB.out.size; simp; omega) (fun j hj => (HO.out.lt j hj).1)
        clear hown' hgrow
        go_wp2_with (fail)
        go_roundw
        case rel => exact ⟨2, by omega, rfl, HO2.out, HB2.out⟩
        case measure => simp [intOf]
      · go_wp2_with (at_builtin; refine wpList_append_own _ rfl _ _ 23 rfl w.heap.size 5 i0 (.int .u8 0) 1 1 Yba.underlying23 hi hz0 hz1 hz2 rfl (by decide) _ _ _ rfl (HO.out.alloc _) _ 1 1 [Value.int .u8 (((T : Nat) : Int) / 65536 % 256)] rfl rfl ?c1 ?c2 ?c3 ?c4 ?c5 ?_)
        case c1 =>
          intro j u hj
          match j, hj with
          | 0, hj => simp at hj; subst hj; simp [Addr.add]
        case c2 => intro u hu; simp at hu; subst hu; rfl
        case c3 => unfold maxLen; omega
        case c4 => omega
        case c5 => have := HB.out.size; simp; omega
        intro v' w2 hown' hgrow _
        have HO2 : Hid (w2.ownsRow w.heap.size 5 1 v' (3) (cellsOf (([] : List UInt8) ++ lbs T 3))) := by
          show w2.ownsRow w.heap.size 5 1 v' (3) (cellsOf (([] : List UInt8) ++ lbs T (2 + 1)))
          rw [cells_snoc ([] : List UInt8) T 2 (((T : Nat) : Int) / 65536 % 256) (by simp only [lb, UInt8.toNat_ofNat', Nat.reducePow]; omega)]
          exact hown'
        have HB2 : Hid (Below w.heap.size w w2) := (HB.out.alloc HB.out.size _).grown hgrow (by have := HB.out.size; simp; omega) (fun j hj => (HO.out.lt j hj).1)
        clear hown' hgrow
        go_wp2_with (fail)
        go_roundw
        case rel => exact ⟨3, by omega, rfl, HO2.out, HB2.out⟩
        case measure => simp [intOf]
      · go_wp2_with (at_builtin; refine wpList_append_own _ rfl _ _ 23 rfl w.heap.size 5 i0 (.int .u8 0) 1 1 Yba.underlying23 hi hz0 hz1 hz2 rfl (by decide) _ _ _ rfl (HO.out.alloc _) _ 1 1 [Value.int .u8 (((T : Nat) : Int) / 16777216 % 256)] rfl rfl ?c1 ?c2 ?c3 ?c4 ?c5 ?_)
        case c1 =>
          intro j u hj
          match j, hj with
          | 0, hj => simp at hj; subst hj; simp [Addr.add]
        case c2 => intro u hu; simp at hu; subst hu; rfl
        case c3 => unfold maxLen; omega
        case c4 => omega
        case c5 => have := HB.out.size; simp; omega
        intro v' w2 hown' hgrow _
        have HO2 : Hid (w2.ownsRow w.heap.size 5 1 v' (4) (cellsOf (([] : List UInt8) ++ lbs T 4))) := by
          show w2.ownsRow w.heap.size 5 1 v' (4) (cellsOf (([] : List UInt8) ++ lbs T (3 + 1)))
          rw [cells_snoc ([] : List UInt8) T 3 (((T : Nat) : Int) / 16777216 % 256) (by simp only [lb, UInt8.toNat_ofNat', Nat.reducePow]; omega)]
          exact hown'
        have HB2 : Hid (Below w.heap.size w w2) := (HB.out.alloc HB.out.size _).grown hgrow (by have := HB.out.size; simp; omega) (fun j hj => (HO.out.lt j hj).1)
        clear hown' hgrow
        go_wp2_with (fail)
        go_roundw
        case rel => exact ⟨4, by omega, rfl, HO2.out, HB2.out⟩
        case measure => simp [intOf]
      · go_wp2_with (at_builtin; refine wpList_append_own _ rfl _ _ 23 rfl w.heap.size 5 i0 (.int .u8 0) 1 1 Yba.underlying23 hi hz0 hz1 hz2 rfl (by decide) _ _ _ rfl (HO.out.alloc _) _ 1 1 [Value.int .u8 (((T : Nat) : Int) / 4294967296 % 256)] rfl rfl ?c1 ?c2 ?c3 ?c4 ?c5 ?_)
        case c1 =>
          intro j u hj
          match j, hj with
          | 0, hj => simp at hj; subst hj; simp [Addr.add]
        case c2 => intro u hu; simp at hu; subst hu; rfl
        case c3 => unfold maxLen; omega
        case c4 => omega
        case c5 => have := HB.out.size; simp; omega
        intro v' w2 hown' hgrow _
        have HO2 : Hid (w2.ownsRow w.heap.size 5 1 v' (5) (cellsOf (([] : List UInt8) ++ lbs T 5))) := by
          show w2.ownsRow w.heap.size 5 1 v' (5) (cellsOf (([] : List UInt8) ++ lbs T (4 + 1)))
          rw [cells_snoc ([] : List UInt8) T 4 (((T : Nat) : Int) / 4294967296 % 256) (by simp only [lb, UInt8.toNat_ofNat', Nat.reducePow]; omega)]
          exact hown'
        have HB2 : Hid (Below w.heap.size w w2) := (HB.out.alloc HB.out.size _).grown hgrow (by have := HB.out.size; simp; omega) (fun j hj => (HO.out.lt j hj).1)
        clear hown' hgrow
        go_wp2_with (fail)
        go_roundw
        case rel => exact ⟨5, by omega, rfl, HO2.out, HB2.out⟩
        case measure => simp [intOf]
      · go_wp2_with (at_builtin; refine wpList_append_own _ rfl _ _ 23 rfl w.heap.size 5 i0 (.int .u8 0) 1 1 Yba.underlying23 hi hz0 hz1 hz2 rfl (by decide) _ _ _ rfl (HO.out.alloc _) _ 1 1 [Value.int .u8 (((T : Nat) : Int) / 1099511627776 % 256)] rfl rfl ?c1 ?c2 ?c3 ?c4 ?c5 ?_)
        case c1 =>
          intro j u hj
          match j, hj with
          | 0, hj => simp at hj; subst hj; simp [Addr.add]
        case c2 => intro u hu; simp at hu; subst hu; rfl
        case c3 => unfold maxLen; omega
        case c4 => omega
        case c5 => have := HB.out.size; simp; omega
        intro v' w2 hown' hgrow _
        have HO2 : Hid (w2.ownsRow w.heap.size 5 1 v' (6) (cellsOf (([] : List UInt8) ++ lbs T 6))) := by
          show w2.ownsRow w.heap.size 5 1 v' (6) (cellsOf (([] : List UInt8) ++ lbs T (5 + 1)))
          rw [cells_snoc ([] : List UInt8) T 5 (((T : Nat) : Int) / 1099511627776 % 256) (by simp only [lb, UInt8.toNat_ofNat', Nat.reducePow]; omega)]
          exact hown'
        have HB2 : Hid (Below w.heap.size w w2) := (HB.out.alloc HB.out.size _).grown hgrow (by have := HB.out.size; simp; omega) (fun j hj => (HO.out.lt j hj).1)
        clear hown' hgrow
        go_wp2_with (fail)
        go_roundw
        case rel => exact ⟨6, by omega, rfl, HO2.out, HB2.out⟩
        case measure => simp [intOf]
      · go_wp2_with (at_builtin; refine wpList_append_own _ rfl _ _ 23 rfl w.heap.size 5 i0 (.int .u8 0) 1 1 Yba.underlying23 hi hz0 hz1 hz2 rfl (by decide) _ _ _ rfl (HO.out.alloc _) _ 1 1 [Value.int .u8 (((T : Nat) : Int) / 281474976710656 % 256)] rfl rfl ?c1 ?c2 ?c3 ?c4 ?c5 ?_)
        case c1 =>
          intro j u hj
          match j, hj with
          | 0, hj => simp at hj; subst hj; simp [Addr.add]
        case c2 => intro u hu; simp at hu; subst hu; rfl
        case c3 => unfold maxLen; omega
        case c4 => omega
        case c5 => have := HB.out.size; simp; omega
        intro v' w2 hown' hgrow _
        have HO2 : Hid (w2.ownsRow w.heap.size 5 1 v' (7) (cellsOf (([] : List UInt8) ++ lbs T 7))) := by
          show w2.ownsRow w.heap.size 5 1 v' (7) (cellsOf (([] : List UInt8) ++ lbs T (6 + 1)))
          rw [cells_snoc ([] : List UInt8) T 6 (((T : Nat) : Int) / 281474976710656 % 256) (by simp only [lb, UInt8.toNat_ofNat', Nat.reducePow]; omega)]
          exact hown'
        have HB2 : Hid (Below w.heap.size w w2) := (HB.out.alloc HB.out.size _).grown hgrow (by have := HB.out.size; simp; omega) (fun j hj => (HO.out.lt j hj).1)
        clear hown' hgrow
        go_wp2_with (fail)
        go_roundw
        case rel => exact ⟨7, by omega, rfl, HO2.out, HB2.out⟩
        case measure => simp [intOf]
      · go_wp2_with (at_builtin; refine wpList_append_own _ rfl _ _ 23 rfl w.heap.size 5 i0 (.int .u8 0) 1 1 Yba.underlying23 hi hz0 hz1 hz2 rfl (by decide) _ _ _ rfl (HO.out.alloc _) _ 1 1 [Value.int .u8 (((T : Nat) : Int) / 72057594037927936)] rfl rfl ?c1 ?c2 ?c3 ?c4 ?c5 ?_)
        case c1 =>
          intro j u hj
          match j, hj with
          | 0, hj => simp at hj; subst hj; simp [Addr.add]
        case c2 => intro u hu; simp at hu; subst hu; rfl
        case c3 => unfold maxLen; omega
        case c4 => omega
        case c5 => have := HB.out.size; simp; omega
        intro v' w2 hown' hgrow _
        have HO2 : Hid (w2.ownsRow w.heap.size 5 1 v' (8) (cellsOf (([] : List UInt8) ++ lbs T 8))) := by
          show w2.ownsRow w.heap.size 5 1 v' (8) (cellsOf (([] : List UInt8) ++ lbs T (7 + 1)))
          rw [cells_snoc ([] : List UInt8) T 7 (((T : Nat) : Int) / 72057594037927936) (by simp only [lb, UInt8.toNat_ofNat', Nat.reducePow]; omega)]
          exact hown'
        have HB2 : Hid (Below w.heap.size w w2) := (HB.out.alloc HB.out.size _).grown hgrow (by have := HB.out.size; simp; omega) (fun j hj => (HO.out.lt j hj).1)
        clear hown' hgrow
        go_wp2_with (fail)
        go_roundw
        case rel => exact ⟨8, by omega, rfl, HO2.out, HB2.out⟩
        case measure => simp [intOf]
    · have hk1 : k = 8 := by omega
      subst hk1
      rw [show ((8 : Nat) : Int) = 8 from rfl]
      have hP' := HP.out
      go_wp2_with (fail)
      clear hP'
      go_loopw [11, 15] (fun vb vi wr => ∃ k : Nat, k ≤ 4 ∧ vi = .int .i64 k ∧ wr.ownsRow w.heap.size 5 1 vb (8 + k) (cellsOf ((lbs T 8) ++ lbs P k)) ∧ Below w.heap.size w wr) (fun _ vi _ => 4 - (intOf vi).toNat)
      case atStart => exact ⟨0, Nat.zero_le _, rfl, by simpa [lbs, cellsOf] using HO.out, HB.out⟩
      case round =>
        clear HO HB
        obtain ⟨k, hk, rfl, own1, bel1⟩ := hrel
        rename World => wq2
        have HO : Hid (wq2.ownsRow w.heap.size 5 1 u11 (8 + k) (cellsOf ((lbs T 8) ++ lbs P k))) := own1
        have HB : Hid (Below w.heap.size w wq2) := bel1
        clear own1 bel1
        by_cases hlt : k < 4
        · have hc : k = 0 ∨ k = 1 ∨ k = 2 ∨ k = 3 := by omega
          rcases hc with rfl | rfl | rfl | rfl
          · go_wp2_with (at_builtin; refine wpList_append_own _ rfl _ _ 23 rfl w.heap.size 5 i0 (.int .u8 0) 1 1 Yba.underlying23 hi hz0 hz1 hz2 rfl (by decide) _ _ _ rfl (HO.out.alloc _) _ 1 1 [Value.int .u8 (((P : Nat) : Int) % 256)] rfl rfl ?c1 ?c2 ?c3 ?c4 ?c5 ?_)
            case c1 =>
              intro j u hj
              match j, hj with
              | 0, hj => simp at hj; subst hj; simp [Addr.add]
            case c2 => intro u hu; simp at hu; subst hu; rfl
            case c3 => unfold maxLen; omega
            case c4 => omega
            case c5 => have := HB.out.size; simp; omega
            intro v' w2 hown' hgrow _
            have HO2 : Hid (w2.ownsRow w.heap.size 5 1 v' (8 + 1) (cellsOf (lbs T 8 ++ lbs P 1))) := by
              show w2.ownsRow w.heap.size 5 1 v' (8 + 1) (cellsOf (lbs T 8 ++ lbs P (0 + 1)))
              rw [cells_snoc (lbs T 8) P 0 (((P : Nat) : Int) % 256) (by simp only [lb, UInt8.toNat_ofNat', Nat.reducePow]; omega)]
              exact hown'
            have HB2 : Hid (Below w.heap.size w w2) := (HB.out.alloc HB.out.size _).grown hgrow (by have := HB.out.size; simp; omega) (fun j hj => (HO.out.lt j hj).1)
            clear hown' hgrow
            go_wp2_with (fail)
            go_roundw
            case rel => exact ⟨1, by omega, rfl, HO2.out, HB2.out⟩
            case measure => simp [intOf]
          · go_wp2_with (at_builtin; refine wpList_append_own _ rfl _ _ 23 rfl w.heap.size 5 i0 (.int .u8 0) 1 1 Yba.underlying23 hi hz0 hz1 hz2 rfl (by decide) _ _ _ rfl (HO.out.alloc _) _ 1 1 [Value.int .u8 (((P : Nat) : Int) / 256 % 256)] rfl rfl ?c1 ?c2 ?c3 ?c4 ?c5 ?_)
            case c1 =>
              intro j u hj
              match j, hj with
              | 0, hj => simp at hj; subst hj; simp [Addr.add]
            case c2 => intro u hu; simp at hu; subst hu; rfl
            case c3 => unfold maxLen; omega
            case c4 => omega
            case c5 => have := HB.out.size; simp; omega
            intro v' w2 hown' hgrow _
            have HO2 : Hid (w2.ownsRow w.heap.size 5 1 v' (8 + 2) (cellsOf (lbs T 8 ++ lbs P 2))) := by
              show w2.ownsRow w.heap.size 5 1 v' (8 + 2) (cellsOf (lbs T 8 ++ lbs P (1 + 1)))
              rw [cells_snoc (lbs T 8) P 1 (((P : Nat) : Int) / 256 % 256) (by simp only [lb, UInt8.toNat_ofNat', Nat.reducePow]; omega)]
              exact hown'
            have HB2 : Hid (Below w.heap.size w w2) := (HB.out.alloc HB.out.size _).grown hgrow (by have := HB.out.size; simp; omega) (fun j hj => (HO.out.lt j hj).1)
            clear hown' hgrow
            go_wp2_with (fail)
            go_roundw
            case rel => exact ⟨2, by omega, rfl, HO2.out, HB2.out⟩
            case measure => simp [intOf]
          · go_wp2_with (at_builtin; refine wpList_append_own _ rfl _ _ 23 rfl w.heap.size 5 i0 (.int .u8 0) 1 1 Yba.underlying23 hi hz0 hz1 hz2 rfl (by decide) _ _ _ rfl (HO.out.alloc _) _ 1 1 [Value.int .u8 (((P : Nat) : Int) / 65536 % 256)] rfl rfl ?c1 ?c2 ?c3 ?c4 ?c5 ?_)
            case c1 =>
              intro j u hj
              match j, hj with
              | 0, hj => simp at hj; subst hj; simp [Addr.add]
            case c2 => intro u hu; simp at hu; subst hu; rfl
            case c3 => unfold maxLen; omega
            case c4 => omega
            case c5 => have := HB.out.size; simp; omega
            intro v' w2 hown' hgrow _
            have HO2 : Hid (w2.ownsRow w.heap.size 5 1 v' (8 + 3) (cellsOf (lbs T 8 ++ lbs P 3))) := by
              show w2.ownsRow w.heap.size 5 1 v' (8 + 3) (cellsOf (lbs T 8 ++ lbs P (2 + 1)))
              rw [cells_snoc (lbs T 8) P 2 (((P : Nat) : Int) / 65536 % 256) (by simp only [lb, UInt8.toNat_ofNat', Nat.reducePow]; omega)]
              exact hown'
            have HB2 : Hid (Below w.heap.size w w2) := (HB.out.alloc HB.out.size _).grown hgrow (by have := HB.out.size; simp; omega) (fun j hj => (HO.out.lt j hj).1)
            clear hown' hgrow
            go_wp2_with (fail)
            go_roundw
            case rel => exact ⟨3, by omega, rfl, HO2.out, HB2.out⟩
            case measure => simp [intOf]
          · go_wp2_with (at_builtin; refine wpList_append_own _ rfl _ _ 23 rfl w.heap.size 5 i0 (.int .u8 0) 1 1 Yba.underlying23 hi hz0 hz1 hz2 rfl (by decide) _ _ _ rfl (HO.out.alloc _) _ 1 1 [Value.int .u8 (((P : Nat) : Int) / 16777216)] rfl rfl ?c1 ?c2 ?c3 ?c4 ?c5 ?_)
            case c1 =>
              intro j u hj
              match j, hj with
              | 0, hj => simp at hj; subst hj; simp [Addr.add]
            case c2 => intro u hu; simp at hu; subst hu; rfl
            case c3 => unfold maxLen; omega
            case c4 => omega
            case c5 => have := HB.out.size; simp; omega
            intro v' w2 hown' hgrow _
            have HO2 : Hid (w2.ownsRow w.heap.size 5 1 v' (8 + 4) (cellsOf (lbs T 8 ++ lbs P 4))) := by
              show w2.ownsRow w.heap.size 5 1 v' (8 + 4) (cellsOf (lbs T 8 ++ lbs P (3 + 1)))
              rw [cells_snoc (lbs T 8) P 3 (((P : Nat) : Int) / 16777216) (by simp only [lb, UInt8.toNat_ofNat', Nat.reducePow]; omega)]
              exact hown'
            have HB2 : Hid (Below w.heap.size w w2) := (HB.out.alloc HB.out.size _).grown hgrow (by have := HB.out.size; simp; omega) (fun j hj => (HO.out.lt j hj).1)
            clear hown' hgrow
            go_wp2_with (fail)
            go_roundw
            case rel => exact ⟨4, by omega, rfl, HO2.out, HB2.out⟩
            case measure => simp [intOf]
        · have hk2 : k = 4 := by omega
          subst hk2
          rw [show ((4 : Nat) : Int) = 4 from rfl]
          go_wp2_with (fail)
          go_loopw [11, 16] (fun vb vi wr => ∃ k : Nat, k ≤ 8 ∧ vi = .int .i64 k ∧ wr.ownsRow w.heap.size 5 1 vb (12 + k) (cellsOf ((lbs T 8 ++ lbs P 4) ++ lbs M k)) ∧ Below w.heap.size w wr) (fun _ vi _ => 8 - (intOf vi).toNat)
          case atStart => exact ⟨0, Nat.zero_le _, rfl, by simpa [lbs, cellsOf] using HO.out, HB.out⟩
          case round =>
            clear HO HB
            obtain ⟨k, hk, rfl, own1, bel1⟩ := hrel
            rename World => wq3
            have HO : Hid (wq3.ownsRow w.heap.size 5 1 u11 (12 + k) (cellsOf ((lbs T 8 ++ lbs P 4) ++ lbs M k))) := own1
            have HB : Hid (Below w.heap.size w wq3) := bel1
            clear own1 bel1
            by_cases hlt : k < 8
            · have hc : k = 0 ∨ k = 1 ∨ k = 2 ∨ k = 3 ∨ k = 4 ∨ k = 5 ∨ k = 6 ∨ k = 7 := by omega
              rcases hc with rfl | rfl | rfl | rfl | rfl | rfl | rfl | rfl
              · go_wp2_with (at_builtin; refine wpList_append_own _ rfl _ _ 23 rfl w.heap.size 5 i0 (.int .u8 0) 1 1 Yba.underlying23 hi hz0 hz1 hz2 rfl (by decide) _ _ _ rfl (HO.out.alloc _) _ 1 1 [Value.int .u8 (((M : Nat) : Int) % 256)] rfl rfl ?c1 ?c2 ?c3 ?c4 ?c5 ?_)
                case c1 =>
                  intro j u hj
                  match j, hj with
                  | 0, hj => simp at hj; subst hj; simp [Addr.add]
                case c2 => intro u hu; simp at hu; subst hu; rfl
                case c3 => unfold maxLen; omega
                case c4 => omega
                case c5 => have := HB.out.size; simp; omega
                intro v' w2 hown' hgrow _
                have HO2 : Hid (w2.ownsRow w.heap.size 5 1 v' (12 + 1) (cellsOf ((lbs T 8 ++ lbs P 4) ++ lbs M 1))) := by
                  show w2.ownsRow w.heap.size 5 1 v' (12 + 1) (cellsOf ((lbs T 8 ++ lbs P 4) ++ lbs M (0 + 1)))
                  rw [cells_snoc (lbs T 8 ++ lbs P 4) M 0 (((M : Nat) : Int) % 256) (by simp only [lb, UInt8.toNat_ofNat', Nat.reducePow]; omega)]
                  exact hown'
                have HB2 : Hid (Below w.heap.size w w2) := (HB.out.alloc HB.out.size _).grown hgrow (by have := HB.out.size; simp; omega) (fun j hj => (HO.out.lt j hj).1)
                clear hown' hgrow
                go_wp2_with (fail)
                go_roundw
                case rel => exact ⟨1, by omega, rfl, HO2.out, HB2.out⟩
                case measure => simp [intOf]
              · go_wp2_with (at_builtin; refine wpList_append_own _ rfl _ _ 23 rfl w.heap.size 5 i0 (.int .u8 0) 1 1 Yba.underlying23 hi hz0 hz1 hz2 rfl (by decide) _ _ _ rfl (HO.out.alloc _) _ 1 1 [Value.int .u8 (((M : Nat) : Int) / 256 % 256)] rfl rfl ?c1 ?c2 ?c3 ?c4 ?c5 ?_)
                case c1 =>
                  intro j u hj
                  match j, hj with
                  | 0, hj => simp at hj; subst hj; simp [Addr.add]
                case c2 => intro u hu; simp at hu; subst hu; rfl
                case c3 => unfold maxLen; omega
                case c4 => omega
                case c5 => have := HB.out.size; simp; omega
                intro v' w2 hown' hgrow _
                have HO2 : Hid (w2.ownsRow w.heap.size 5 1 v' (12 + 2) (cellsOf ((lbs T 8 ++ lbs P 4) ++ lbs M 2))) := by
                  show w2.ownsRow w.heap.size 5 1 v' (12 + 2) (cellsOf ((lbs T 8 ++ lbs P 4) ++ lbs M (1 + 1)))
                  rw [cells_snoc (lbs T 8 ++ lbs P 4) M 1 (((M : Nat) : Int) / 256 % 256) (by simp only [lb, UInt8.toNat_ofNat', Nat.reducePow]; omega)]
                  exact hown'
                have HB2 : Hid (Below w.heap.size w w2) := (HB.out.alloc HB.out.size _).grown hgrow (by have := HB.out.size; simp; omega) (fun j hj => (HO.out.lt j hj).1)
                clear hown' hgrow
                go_wp2_with (fail)
                go_roundw
                case rel => exact ⟨2, by omega, rfl, HO2.out, HB2.out⟩
                case measure => simp [intOf]
              · go_wp2_with (at_builtin; refine wpList_append_own _ rfl _ _ 23 rfl w.heap.size 5 i0 (.int .u8 0) 1 1 Yba.underlying23 hi hz0 hz1 hz2 rfl (by decide) _ _ _ rfl (HO.out.alloc _) _ 1 1 [Value.int .u8 (((M : Nat) : Int) / 65536 % 256)] rfl rfl ?c1 ?c2 ?c3 ?c4 ?c5 ?_)
                case c1 =>
                  intro j u hj
                  match j, hj with
                  | 0, hj => simp at hj; subst hj; simp [Addr.add]
                case c2 => intro u hu; simp at hu; subst hu; rfl
                case c3 => unfold maxLen; omega
                case c4 => omega
                case c5 => have := HB.out.size; simp; omega
                intro v' w2 hown' hgrow _
                have HO2 : Hid (w2.ownsRow w.heap.size 5 1 v' (12 + 3) (cellsOf ((lbs T 8 ++ lbs P 4) ++ lbs M 3))) := by
                  show w2.ownsRow w.heap.size 5 1 v' (12 + 3) (cellsOf ((lbs T 8 ++ lbs P 4) ++ lbs M (2 + 1)))
                  rw [cells_snoc (lbs T 8 ++ lbs P 4) M 2 (((M : Nat) : Int) / 65536 % 256) (by simp only [lb, UInt8.toNat_ofNat', Nat.reducePow]; omega)]
                  exact hown'
                have HB2 : Hid (Below w.heap.size w w2) := (HB.out.alloc HB.out.size _).grown hgrow (by have := HB.out.size; simp; omega) (fun j hj => (HO.out.lt j hj).1)
                clear hown' hgrow
                go_wp2_with (fail)
                go_roundw
                case rel => exact ⟨3, by omega, rfl, HO2.out, HB2.out⟩
                case measure => simp [intOf]
              · go_wp2_with (at_builtin; refine wpList_append_own _ rfl _ _ 23 rfl w.heap.size 5 i0 (.int .u8 0) 1 1 Yba.underlying23 hi hz0 hz1 hz2 rfl (by decide) _ _ _ rfl (HO.out.alloc _) _ 1 1 [Value.int .u8 (((M : Nat) : Int) / 16777216 % 256)] rfl rfl ?c1 ?c2 ?c3 ?c4 ?c5 ?_)
                case c1 =>
                  intro j u hj
                  match j, hj with
                  | 0, hj => simp at hj; subst hj; simp [Addr.add]
                case c2 => intro u hu; simp at hu; subst hu; rfl
                case c3 => unfold maxLen; omega
                case c4 => omega
                case c5 => have := HB.out.size; simp; omega
                intro v' w2 hown' hgrow _
                have HO2 : Hid (w2.ownsRow w.heap.size 5 1 v' (12 + 4) (cellsOf ((lbs T 8 ++ lbs P 4) ++ lbs M 4))) := by
                  show w2.ownsRow w.heap.size 5 1 v' (12 + 4) (cellsOf ((lbs T 8 ++ lbs P 4) ++ lbs M (3 + 1)))
                  rw [cells_snoc (lbs T 8 ++ lbs P 4) M 3 (((M : Nat) : Int) / 16777216 % 256) (by simp only [lb, UInt8.toNat_ofNat', Nat.reducePow]; omega)]
                  exact hown'
                have HB2 : Hid (Below w.heap.size w w2) := (HB.out.alloc HB.out.size _).grown hgrow (by have := HB.out.size; simp; omega) (fun j hj => (HO.out.lt j hj).1)
                clear hown' hgrow
                go_wp2_with (fail)
                go_roundw
                case rel => exact ⟨4, by omega, rfl, HO2.out, HB2.out⟩
                case measure => simp [intOf]
              · go_wp2_with (at_builtin; refine wpList_append_own _ rfl _ _ 23 rfl w.heap.size 5 i0 (.int .u8 0) 1 1 Yba.underlying23 hi hz0 hz1 hz2 rfl (by decide) _ _ _ rfl (HO.out.alloc _) _ 1 1 [Value.int .u8 (((M : Nat) : Int) / 4294967296 % 256)] rfl rfl ?c1 ?c2 ?c3 ?c4 ?c5 ?_)
                case c1 =>
                  intro j u hj
                  match j, hj with
                  | 0, hj => simp at hj; subst hj; simp [Addr.add]
                case c2 => intro u hu; simp at hu; subst hu; rfl
                case c3 => unfold maxLen; omega
                case c4 => omega
                case c5 => have := HB.out.size; simp; omega
                intro v' w2 hown' hgrow _
                have HO2 : Hid (w2.ownsRow w.heap.size 5 1 v' (12 + 5) (cellsOf ((lbs T 8 ++ lbs P 4) ++ lbs M 5))) := by
                  show w2.ownsRow w.heap.size 5 1 v' (12 + 5) (cellsOf ((lbs T 8 ++ lbs P 4) ++ lbs M (4 + 1)))
                  rw [cells_snoc (lbs T 8 ++ lbs P 4) M 4 (((M : Nat) : Int) / 4294967296 % 256) (by simp only [lb, UInt8.toNat_ofNat', Nat.reducePow]; omega)]
                  exact hown'
                have HB2 : Hid (Below w.heap.size w w2) := (HB.out.alloc HB.out.size _).grown hgrow (by have := HB.out.size; simp; omega) (fun j hj => (HO.out.lt j hj).1)
                clear hown' hgrow
                go_wp2_with (fail)
                go_roundw
                case rel => exact ⟨5, by omega, rfl, HO2.out, HB2.out⟩
                case measure => simp [intOf]
              · go_wp2_with (at_builtin; refine wpList_append_own _ rfl _ _ 23 rfl w.heap.size 5 i0 (.int .u8 0) 1 1 Yba.underlying23 hi hz0 hz1 hz2 rfl (by decide) _ _ _ rfl (HO.out.alloc _) _ 1 1 [Value.int .u8 (((M : Nat) : Int) / 1099511627776 % 256)] rfl rfl ?c1 ?c2 ?c3 ?c4 ?c5 ?_)
                case c1 =>
                  intro j u hj
                  match j, hj with
                  | 0, hj => simp at hj; subst hj; simp [Addr.add]
                case c2 => intro u hu; simp at hu; subst hu; rfl
                case c3 => unfold maxLen; omega
                case c4 => omega
                case c5 => have := HB.out.size; simp; omega
                intro v' w2 hown' hgrow _
                have HO2 : Hid (w2.ownsRow w.heap.size 5 1 v' (12 + 6) (cellsOf ((lbs T 8 ++ lbs P 4) ++ lbs M 6))) := by
                  show w2.ownsRow w.heap.size 5 1 v' (12 + 6) (cellsOf ((lbs T 8 ++ lbs P 4) ++ lbs M (5 + 1)))
                  rw [cells_snoc (lbs T 8 ++ lbs P 4) M 5 (((M : Nat) : Int) / 1099511627776 % 256) (by simp only [lb, UInt8.toNat_ofNat', Nat.reducePow]; omega)]
                  exact hown'
                have HB2 : Hid (Below w.heap.size w w2) := (HB.out.alloc HB.out.size _).grown hgrow (by have := HB.out.size; simp; omega) (fun j hj => (HO.out.lt j hj).1)
                clear hown' hgrow
                go_wp2_with (fail)
                go_roundw
                case rel => exact ⟨6, by omega, rfl, HO2.out, HB2.out⟩
                case measure => simp [intOf]
              · go_wp2_with (at_builtin; refine wpList_append_own _ rfl _ _ 23 rfl w.heap.size 5 i0 (.int .u8 0) 1 1 Yba.underlying23 hi hz0 hz1 hz2 rfl (by decide) _ _ _ rfl (HO.out.alloc _) _ 1 1 [Value.int .u8 (((M : Nat) : Int) / 281474976710656 % 256)] rfl rfl ?c1 ?c2 ?c3 ?c4 ?c5 ?_)
                case c1 =>
                  intro j u hj
                  match j, hj with
                  | 0, hj => simp at hj; subst hj; simp [Addr.add]
                case c2 => intro u hu; simp at hu; subst hu; rfl
                case c3 => unfold maxLen; omega
                case c4 => omega
                case c5 => have := HB.out.size; simp; omega
                intro v' w2 hown' hgrow _
                have HO2 : Hid (w2.ownsRow w.heap.size 5 1 v' (12 + 7) (cellsOf ((lbs T 8 ++ lbs P 4) ++ lbs M 7))) := by
                  show w2.ownsRow w.heap.size 5 1 v' (12 + 7) (cellsOf ((lbs T 8 ++ lbs P 4) ++ lbs M (6 + 1)))
                  rw [cells_snoc (lbs T 8 ++ lbs P 4) M 6 (((M : Nat) : Int) / 281474976710656 % 256) (by simp only [lb, UInt8.toNat_ofNat', Nat.reducePow]; omega)]
                  exact hown'
                have HB2 : Hid (Below w.heap.size w w2) := (HB.out.alloc HB.out.size _).grown hgrow (by have := HB.out.size; simp; omega) (fun j hj => (HO.out.lt j hj).1)
                clear hown' hgrow
                go_wp2_with (fail)
                go_roundw
                case rel => exact ⟨7, by omega, rfl, HO2.out, HB2.out⟩
                case measure => simp [intOf]
              · go_wp2_with (at_builtin; refine wpList_append_own _ rfl _ _ 23 rfl w.heap.size 5 i0 (.int .u8 0) 1 1 Yba.underlying23 hi hz0 hz1 hz2 rfl (by decide) _ _ _ rfl (HO.out.alloc _) _ 1 1 [Value.int .u8 (((M : Nat) : Int) / 72057594037927936)] rfl rfl ?c1 ?c2 ?c3 ?c4 ?c5 ?_)
                case c1 =>
                  intro j u hj
                  match j, hj with
                  | 0, hj => simp at hj; subst hj; simp [Addr.add]
                case c2 => intro u hu; simp at hu; subst hu; rfl
                case c3 => unfold maxLen; omega
                case c4 => omega
                case c5 => have := HB.out.size; simp; omega
                intro v' w2 hown' hgrow _
                have HO2 : Hid (w2.ownsRow w.heap.size 5 1 v' (12 + 8) (cellsOf ((lbs T 8 ++ lbs P 4) ++ lbs M 8))) := by
                  show w2.ownsRow w.heap.size 5 1 v' (12 + 8) (cellsOf ((lbs T 8 ++ lbs P 4) ++ lbs M (7 + 1)))
                  rw [cells_snoc (lbs T 8 ++ lbs P 4) M 7 (((M : Nat) : Int) / 72057594037927936) (by simp only [lb, UInt8.toNat_ofNat', Nat.reducePow]; omega)]
                  exact hown'
                have HB2 : Hid (Below w.heap.size w w2) := (HB.out.alloc HB.out.size _).grown hgrow (by have := HB.out.size; simp; omega) (fun j hj => (HO.out.lt j hj).1)
                clear hown' hgrow
                go_wp2_with (fail)
                go_roundw
                case rel => exact ⟨8, by omega, rfl, HO2.out, HB2.out⟩
                case measure => simp [intOf]
            · have hk3 : k = 8 := by omega
              subst hk3
              rw [show ((8 : Nat) : Int) = 8 from rfl]
              -- the flags
              go_wp2_with (at_builtin; refine wpList_append_own _ rfl _ _ 23 rfl w.heap.size 5 i0 (.int .u8 0) 1 1 Yba.underlying23 hi hz0 hz1 hz2 rfl (by decide) _ _ _ rfl (HO.out.alloc _) _ 1 1 [Value.int .u8 (fl.toNat : Int)] rfl rfl ?c1 ?c2 ?c3 ?c4 ?c5 ?_)
              case c1 =>
                intro j u hj
                match j, hj with
                | 0, hj => simp at hj; subst hj; simp [Addr.add]
              case c2 => intro u hu; simp at hu; subst hu; rfl
              case c3 => unfold maxLen; omega
              case c4 => omega
              case c5 => have := HB.out.size; simp; omega
              intro v' w2 hown' hgrow _
              have HO2 : Hid (w2.ownsRow w.heap.size 5 1 v' 21 (cellsOf (lbs T 8 ++ lbs P 4 ++ lbs M 8 ++ [fl]))) := by
                have e : cellsOf (lbs T 8 ++ lbs P 4 ++ lbs M 8 ++ [fl]) = cellsOf (lbs T 8 ++ lbs P 4 ++ lbs M 8) ++ [Value.int .u8 (fl.toNat : Int)] := by simp [cellsOf]
                show w2.ownsRow w.heap.size 5 1 v' 21 (cellsOf (lbs T 8 ++ lbs P 4 ++ lbs M 8 ++ [fl]))
                rw [e]
                exact hown'
              have HB2 : Hid (Below w.heap.size w w2) := (HB.out.alloc HB.out.size _).grown hgrow (by have := HB.out.size; simp; omega) (fun j hj => (HO.out.lt j hj).1)
              clear hown' hgrow HO HB
              -- the tail
              cases a with
              | none =>
                obtain ⟨rfl, rfl⟩ := HNIL.out rfl
                obtain rfl : tl = [] := List.eq_nil_of_length_eq_zero htl
                go_wp2_with (at_builtin; refine wpList_append_own_none rfl _ _ 23 rfl w.heap.size 5 i0 1 Yba.underlying23 hi _ _ _ rfl HO2.out rfl ?_)
                go_wp2_with (fail)
                go_ret
                refine ⟨v', rfl, ?_, HB2.out⟩
                rw [recL, List.append_nil]
                exact HO2.out
              | some ad =>
                go_wp2_with (at_builtin; refine wpList_append_own _ rfl _ _ 23 rfl w.heap.size 5 i0 (.int .u8 0) 1 1 Yba.underlying23 hi hz0 hz1 hz2 rfl (by decide) _ _ _ rfl HO2.out _ len cap (cellsOf tl) rfl ?c0 ?c1 ?c2 ?c3 ?c4 ?c5 ?_)
                case c0 => simp [cellsOf, htl]
                case c1 =>
                  intro j u hj
                  have hj2 : j < len := by
                    have := (List.getElem?_eq_some_iff.1 hj).1
                    simpa [cellsOf, htl] using this
                  obtain ⟨b, off, h2, hb, hcj⟩ := HC.out j hj2
                  cases h2
                  rw [show (⟨b, off, none⟩ : Addr).add j = ⟨b, off + j, none⟩ by unfold Addr.add; split <;> simp_all, HB2.out.cell (p := ⟨b, off + j, none⟩) hb, hcj, ← hj]
                  simp [cellsOf, List.getD, htl, hj2]
                case c2 =>
                  intro u hu
                  obtain ⟨x, _, rfl⟩ := List.mem_map.1 hu
                  rfl
                case c3 => unfold maxLen; omega
                case c4 => omega
                case c5 => have := HB2.out.size; omega
                intro v3 w3 hown3 hgrow3 _
                have HO3 : Hid (w3.ownsRow w.heap.size 5 1 v3 (21 + len) (cellsOf (recL T P M fl tl))) := by
                  have e : cellsOf (recL T P M fl tl) = cellsOf (lbs T 8 ++ lbs P 4 ++ lbs M 8 ++ [fl]) ++ cellsOf tl := by simp [cellsOf, recL]
                  show w3.ownsRow w.heap.size 5 1 v3 (21 + len) (cellsOf (recL T P M fl tl))
                  rw [e]
                  exact hown3
                have HB3 : Hid (Below w.heap.size w w3) := HB2.out.grown hgrow3 HB2.out.size (fun j hj => (HO2.out.lt j hj).1)
                clear hown3 hgrow3
                go_wp2_with (fail)
                go_ret
                exact ⟨v3, rfl, HO3.out, HB3.out⟩
#print axioms arec_any

set_option maxRecDepth 100000 in
theorem eq_any (xb xo xc yb yo yc n : Nat) (G : Nat → UInt8) (w : World) (hn : n ≤ 2048)
   (hx : ∀ j, j < n → w.cell? ⟨xb, xo + j, none⟩ = some (.int .u8 (G j).toNat))
   (hy : ∀ j, j < n → w.cell? ⟨yb, yo + j, none⟩ = some (.int .u8 (G j).toNat)) :
   Calls Yba.prog 6 #[.slice (some ⟨xb, xo, none⟩) n xc, .slice (some ⟨yb, yo, none⟩) n yc] w fun e w' => e = .returned (.bool true) ∧ ∃ m, w' = w.drewN m := by
  go_enter Yba.func6, Yba.ntmps6
  go_wp2
  go_loopw [5] (fun vi wr => ∃ k m : Nat, k ≤ n ∧ vi = .int .i64 k ∧ wr = w.drewN m) (fun vi _ => n - (intOf vi).toNat)
  case atStart => exact ⟨0, 0, by omega, rfl, rfl⟩
  case round =>
    obtain ⟨k, m, hk, rfl, rfl⟩ := hrel
    by_cases hlt : k < n
    · have bb : (((G k).toNat : Int) != ((G k).toNat : Int)) = false := by simp
      go_wp2
      go_quiet (fail)
      go_wp2
      go_roundw
      case rel => exact ⟨k + 1, _, by omega, by go_num, rfl⟩
      case measure => simp [intOf]; omega
    · go_wp2
      go_ret
      exact ⟨rfl, m, rfl⟩
#print axioms eq_any
end Go.Proofs.Ybulkbjlo
