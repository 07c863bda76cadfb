/-
  THE WALK OF zzs3009bmodel (7).
-/
import Derived.Test.YbulkbjhgSame
namespace Go.Proofs.Ybulkbjhg
open Go.RowKit Go.Sort

/-- A byte as the machine holds it. -/
abbrev u8v (x : UInt8) : Value := .int .u8 x.toNat

theorem and255 (n : Int) : bits .and .i64 n 255 = n % 256 := by
  have h255 : (BitVec.ofInt 64 255).toNat = 2 ^ 8 - 1 := by decide
  have key : (BitVec.ofInt 64 n &&& BitVec.ofInt 64 255).toNat = (n % ((2 ^ 64 : Nat) : Int)).toNat % 2 ^ 8 := by
    rw [BitVec.toNat_and, BitVec.toNat_ofInt, h255, Nat.and_two_pow_sub_one_eq_mod]
  show IntKind.i64.wrap ((BitVec.ofInt 64 n &&& BitVec.ofInt 64 255).toNat : Nat) = n % 256
  rw [key, IntKind.wrap_i64]
  omega
theorem low_byte (v : Nat) : bits .and .i64 (v : Int) 255 % 256 = ((UInt8.ofNat v).toNat : Int) := by
  rw [and255, UInt8.toNat_ofNat']
  omega

set_option maxRecDepth 100000 in
set_option maxHeartbeats 1000000 in
theorem model_any (s : ByteArray) (w : World) (hs : s.size ≤ 1024) :
    Calls Yba.prog 7 #[.string s] w fun e w' => e = .returned (.agg #[.int .u8 (Ak.oct (Ak.num s.data.toList) 0).toNat, .int .u8 (Ak.oct (Ak.num s.data.toList) 1).toNat, .int .u8 (Ak.oct (Ak.num s.data.toList) 2).toNat, .int .u8 (Ak.oct (Ak.num s.data.toList) 3).toNat, .int .u8 (Ak.oct (Ak.num s.data.toList) 4).toNat, .int .u8 (Ak.oct (Ak.num s.data.toList) 5).toNat, .int .u8 (Ak.oct (Ak.num s.data.toList) 6).toNat, .int .u8 (Ak.oct (Ak.num s.data.toList) 7).toNat]) ∧ Below w.heap.size w w' := by
  go_enter Yba.func7, Yba.ntmps7
  go_wp2
  generalize hW : (w.alloc (.cells #[.int .u8 0, .int .u8 0, .int .u8 0, .int .u8 0, .int .u8 0, .int .u8 0, .int .u8 0, .int .u8 0] 28)).alloc (.cells #[.int .u8 0, .int .u8 0, .int .u8 0, .int .u8 0, .int .u8 0, .int .u8 0, .int .u8 0, .int .u8 0] 28) = W
  have hb1 : W.heap[w.heap.size + 1]? = some (.cells #[.int .u8 0, .int .u8 0, .int .u8 0, .int .u8 0, .int .u8 0, .int .u8 0, .int .u8 0, .int .u8 0] 28) := by rw [← hW]; exact heap_alloc2_new w _ _
  have hb0 : W.heap[w.heap.size]? = some (.cells #[.int .u8 0, .int .u8 0, .int .u8 0, .int .u8 0, .int .u8 0, .int .u8 0, .int .u8 0, .int .u8 0] 28) := by rw [← hW]; exact heap_alloc2_old w _ _
  have bel : Below w.heap.size w W := by rw [← hW]; exact ((Below.refl _ _).alloc (Nat.le_refl _) _).alloc (by simp) _
  have hH : Holds u8v W (w.heap.size + 1) 0 (Ak.octs 0) := by
    intro j hj
    refine ⟨?_, frozen_of_row W _ _ _ _ hb1⟩
    rw [cell_of_row _ _ _ _ _ _ hb1]
    have hj8 : j < 8 := hj
    have hc : j = 0 ∨ j = 1 ∨ j = 2 ∨ j = 3 ∨ j = 4 ∨ j = 5 ∨ j = 6 ∨ j = 7 := by omega
    rcases hc with rfl | rfl | rfl | rfl | rfl | rfl | rfl | rfl <;> rfl
  have HB0 : Hid (W.heap[w.heap.size]? = some (.cells #[.int .u8 0, .int .u8 0, .int .u8 0, .int .u8 0, .int .u8 0, .int .u8 0, .int .u8 0, .int .u8 0] 28)) := hb0
  have BB : Hid (Below w.heap.size w W) := bel
  have HH : Hid (Holds u8v W (w.heap.size + 1) 0 (Ak.octs 0)) := hH
  clear hW hb1 hb0 bel hH
  go_loopw [4] (fun vj wr => ∃ k : Nat, k ≤ s.size ∧ vj = .int .i64 k ∧ wr = putRow u8v W (w.heap.size + 1) 0 (Ak.octs (Ak.num (s.data.toList.take k)))) (fun vj _ => s.size - (intOf vj).toNat)
  case atStart => exact ⟨0, Nat.zero_le _, rfl, (putRow_self _ _ _ _ _ HH.out).symm⟩
  case round =>
    obtain ⟨k, hk, rfl, rfl⟩ := hrel
    obtain ⟨N, hN⟩ : ∃ N, Ak.num (s.data.toList.take k) = N := ⟨_, rfl⟩
    rw [hN]
    have HN : Hid (Ak.num (s.data.toList.take k) = N) := hN
    clear hN
    by_cases hlt : k < s.size
    · obtain ⟨c, hc⟩ : ∃ c, s.data.toList.getD k 0 = c := ⟨_, rfl⟩
      have hcs : s[k] = c := by rw [← hc, getD_byte s k hlt]; rfl
      have HNX : Hid (Ak.octs (Ak.num (s.data.toList.take (k + 1))) = (Ak.inn (Ak.octs N) (c - 48).toNat 8).1) := by
        show _ = _
        rw [take_snoc s k hlt, Ak.num_snoc, HN.out, hc, Ak.inn_octs]
      have HD : Hid (((s[k].toNat : Int) - 48) % 256 = ((c - 48).toNat : Int)) := by
        show _ = _
        rw [hcs, UInt8.toNat_sub]
        show _ = (((2 ^ 8 - 48 + c.toNat) % 2 ^ 8 : Nat) : Int)
        have := c.toNat_lt
        omega
      clear hc hcs
      obtain ⟨d, hd⟩ : ∃ d, (c - 48).toNat = d := ⟨_, rfl⟩
      have hdl : d < 256 := by rw [← hd]; exact (c - 48).toNat_lt
      rw [hd] at HNX HD
      clear hd
      go_wp2
      go_loopw [5, 6] (fun vc vi wr => ∃ t : Nat, t ≤ 8 ∧ vi = .int .i64 (7 - (t : Int)) ∧ vc = .int .i64 (Ak.inn (Ak.octs N) d t).2 ∧ wr = putRow u8v W (w.heap.size + 1) 0 (Ak.inn (Ak.octs N) d t).1) (fun _ vi _ => (intOf vi + 1).toNat)
      case atStart => exact ⟨0, by omega, rfl, by rw [HD.out, Ak.inn], rfl⟩
      case round =>
        obtain ⟨t, ht, rfl, rfl, rfl⟩ := hrel
        have hcl := Ak.carry_lt (Ak.octs N) d t hdl
        obtain ⟨cy, hcy⟩ : ∃ cy, (Ak.inn (Ak.octs N) d t).2 = cy := ⟨_, rfl⟩
        rw [hcy] at hcl
        rw [hcy]
        obtain ⟨A, hA⟩ : ∃ A, (Ak.inn (Ak.octs N) d t).1 = A := ⟨_, rfl⟩
        rw [hA]
        have hAs : A.size = 8 := by rw [← hA, Ak.size_inn]; rfl
        by_cases htl : t < 8
        · obtain ⟨x, hx⟩ : ∃ x, A[7 - t]! = x := ⟨_, rfl⟩
          have hxl := x.toNat_lt
          have HAx := holds_putRow u8v W (w.heap.size + 1) 0 _ A HH.out (by rw [hAs]; rfl)
          have HIN : Hid (Ak.inn (Ak.octs N) d (t + 1) = (A.setIfInBounds (7 - t) (UInt8.ofNat (x.toNat * 10 + cy)), (x.toNat * 10 + cy) / 256)) := by
            show _ = _
            rw [Ak.inn]
            simp only [hcy, hA, hx]
          have c1 : (putRow u8v W (w.heap.size + 1) 0 A).cell? ⟨w.heap.size + 1, 7 - t, none⟩ = some (.int .u8 x.toNat) := by
            have := (HAx (7 - t) (by omega)).1
            rwa [Nat.zero_add, hx] at this
          have f1 : (putRow u8v W (w.heap.size + 1) 0 A).frozen? ⟨w.heap.size + 1, 7 - t, none⟩ = false := by
            have := (HAx (7 - t) (by omega)).2
            rwa [Nat.zero_add] at this
          have HP := fun r => putRow_set u8v W (w.heap.size + 1) 0 A (7 - t) r (by omega)
          have HP2 : Hid (∀ r, (putRow u8v W (w.heap.size + 1) 0 A).setCell ⟨w.heap.size + 1, 0 + (7 - t), none⟩ (u8v r) = putRow u8v W (w.heap.size + 1) 0 (A.setIfInBounds (7 - t) r)) := HP
          clear HP HAx hx hcy hA
          generalize hV : putRow u8v W (w.heap.size + 1) 0 A = V at *
          clear hV
          have h7 : (7 - (t : Int)).toNat = 7 - t := by omega
          go_wp2
          go_roundw
          case rel =>
            refine ⟨t + 1, by omega, by go_num, by rw [HIN.out]; go_num, ?_⟩
            have e := HP2.out (UInt8.ofNat (x.toNat * 10 + cy))
            have lb := low_byte (x.toNat * 10 + cy)
            rw [Nat.zero_add, u8v, ← lb] at e
            rw [HIN.out, ← e]
            congr 2
          case measure => simp [intOf]; omega
        · obtain rfl : t = 8 := by omega
          have HA8 : Hid (A = Ak.octs (Ak.num (s.data.toList.take (k + 1)))) := by show _ = _; rw [HNX.out, hA]
          clear hcy hA
          go_wp2
          go_roundw
          case rel => exact ⟨k + 1, by omega, by go_num, by rw [HA8.out]⟩
          case measure => simp [intOf]; omega
    · have HNF : Hid (Ak.num s.data.toList = N) := by
        have := HN.out
        rwa [List.take_of_length_le (by simp; omega)] at this
      have HAx := holds_putRow u8v W (w.heap.size + 1) 0 _ (Ak.octs N) HH.out rfl
      have hV0 : (putRow u8v W (w.heap.size + 1) 0 (Ak.octs N)).heap[w.heap.size]? = some (.cells #[.int .u8 0, .int .u8 0, .int .u8 0, .int .u8 0, .int .u8 0, .int .u8 0, .int .u8 0, .int .u8 0] 28) := by
        rw [← HB0.out]
        simp only [putRow, mapBlock, Array.getElem?_modify]
        rw [if_neg (by omega)]
      have belV : Below w.heap.size w (putRow u8v W (w.heap.size + 1) 0 (Ak.octs N)) :=
        ⟨BB.out.os, BB.out.tape, BB.out.output, by simpa using BB.out.size, fun k hk => by
          rw [← BB.out.block k hk]
          simp only [putRow, mapBlock, Array.getElem?_modify]
          rw [if_neg (by omega)]⟩
      generalize hV : putRow u8v W (w.heap.size + 1) 0 (Ak.octs N) = V at *
      have BV : Hid (Below w.heap.size w V) := belV
      have p0 : V.cell? ⟨w.heap.size + 1, 0, none⟩ = some (.int .u8 (Ak.oct N 0).toNat) := (HAx 0 (by show _ < 8; omega)).1
      have q0 : V.cell? ⟨w.heap.size, 0, none⟩ = some (.int .u8 0) := cell_of_row V _ 0 _ _ _ hV0
      have r0 : V.frozen? ⟨w.heap.size, 0, none⟩ = false := frozen_of_row V _ 0 _ _ hV0
      have p1 : V.cell? ⟨w.heap.size + 1, 1, none⟩ = some (.int .u8 (Ak.oct N 1).toNat) := (HAx 1 (by show _ < 8; omega)).1
      have q1 : V.cell? ⟨w.heap.size, 1, none⟩ = some (.int .u8 0) := cell_of_row V _ 1 _ _ _ hV0
      have r1 : V.frozen? ⟨w.heap.size, 1, none⟩ = false := frozen_of_row V _ 1 _ _ hV0
      have p2 : V.cell? ⟨w.heap.size + 1, 2, none⟩ = some (.int .u8 (Ak.oct N 2).toNat) := (HAx 2 (by show _ < 8; omega)).1
      have q2 : V.cell? ⟨w.heap.size, 2, none⟩ = some (.int .u8 0) := cell_of_row V _ 2 _ _ _ hV0
      have r2 : V.frozen? ⟨w.heap.size, 2, none⟩ = false := frozen_of_row V _ 2 _ _ hV0
      have p3 : V.cell? ⟨w.heap.size + 1, 3, none⟩ = some (.int .u8 (Ak.oct N 3).toNat) := (HAx 3 (by show _ < 8; omega)).1
      have q3 : V.cell? ⟨w.heap.size, 3, none⟩ = some (.int .u8 0) := cell_of_row V _ 3 _ _ _ hV0
      have r3 : V.frozen? ⟨w.heap.size, 3, none⟩ = false := frozen_of_row V _ 3 _ _ hV0
      have p4 : V.cell? ⟨w.heap.size + 1, 4, none⟩ = some (.int .u8 (Ak.oct N 4).toNat) := (HAx 4 (by show _ < 8; omega)).1
      have q4 : V.cell? ⟨w.heap.size, 4, none⟩ = some (.int .u8 0) := cell_of_row V _ 4 _ _ _ hV0
      have r4 : V.frozen? ⟨w.heap.size, 4, none⟩ = false := frozen_of_row V _ 4 _ _ hV0
      have p5 : V.cell? ⟨w.heap.size + 1, 5, none⟩ = some (.int .u8 (Ak.oct N 5).toNat) := (HAx 5 (by show _ < 8; omega)).1
      have q5 : V.cell? ⟨w.heap.size, 5, none⟩ = some (.int .u8 0) := cell_of_row V _ 5 _ _ _ hV0
      have r5 : V.frozen? ⟨w.heap.size, 5, none⟩ = false := frozen_of_row V _ 5 _ _ hV0
      have p6 : V.cell? ⟨w.heap.size + 1, 6, none⟩ = some (.int .u8 (Ak.oct N 6).toNat) := (HAx 6 (by show _ < 8; omega)).1
      have q6 : V.cell? ⟨w.heap.size, 6, none⟩ = some (.int .u8 0) := cell_of_row V _ 6 _ _ _ hV0
      have r6 : V.frozen? ⟨w.heap.size, 6, none⟩ = false := frozen_of_row V _ 6 _ _ hV0
      have p7 : V.cell? ⟨w.heap.size + 1, 7, none⟩ = some (.int .u8 (Ak.oct N 7).toNat) := (HAx 7 (by show _ < 8; omega)).1
      have q7 : V.cell? ⟨w.heap.size, 7, none⟩ = some (.int .u8 0) := cell_of_row V _ 7 _ _ _ hV0
      have r7 : V.frozen? ⟨w.heap.size, 7, none⟩ = false := frozen_of_row V _ 7 _ _ hV0
      clear hV HAx hV0 belV
      go_wp2
      exact bodyPost_ret (v := .agg #[.int .u8 (Ak.oct N 0).toNat, .int .u8 (Ak.oct N 1).toNat, .int .u8 (Ak.oct N 2).toNat, .int .u8 (Ak.oct N 3).toNat, .int .u8 (Ak.oct N 4).toNat, .int .u8 (Ak.oct N 5).toNat, .int .u8 (Ak.oct N 6).toNat, .int .u8 (Ak.oct N 7).toNat]) (by simp [results, Yba.results7, go_sem, q0, q1, q2, q3, q4, q5, q6, q7]) rfl ⟨by rw [HNF.out], ((((((((BV.out.setCell (p := ⟨w.heap.size, 0, none⟩) (Nat.le_refl _) _).setCell (p := ⟨w.heap.size, 1, none⟩) (Nat.le_refl _) _).setCell (p := ⟨w.heap.size, 2, none⟩) (Nat.le_refl _) _).setCell (p := ⟨w.heap.size, 3, none⟩) (Nat.le_refl _) _).setCell (p := ⟨w.heap.size, 4, none⟩) (Nat.le_refl _) _).setCell (p := ⟨w.heap.size, 5, none⟩) (Nat.le_refl _) _).setCell (p := ⟨w.heap.size, 6, none⟩) (Nat.le_refl _) _).setCell (p := ⟨w.heap.size, 7, none⟩) (Nat.le_refl _) _)⟩
#print axioms model_any
end Go.Proofs.Ybulkbjhg
