/-
  THE WALK OF LawS3009BExact (3).
-/
import Derived.Test.YbulkbjhgModel
namespace Go.Proofs.Ybulkbjhg
open Go.RowKit Go.Sort

theorem octCells_get (N j : Nat) (hN : N < 18446744073709551616) (hj : j < 8) : (octCells N)[j]? = some (.int .u8 (Ak.oct N j).toNat) := by
  have hc : j = 0 ∨ j = 1 ∨ j = 2 ∨ j = 3 ∨ j = 4 ∨ j = 5 ∨ j = 6 ∨ j = 7 := by omega
  rcases hc with rfl | rfl | rfl | rfl | rfl | rfl | rfl | rfl <;>
    (simp only [octCells, Ak.oct, UInt8.toNat_ofNat', Nat.reduceSub, Nat.reducePow, List.getElem?_cons_zero, List.getElem?_cons_succ]; congr 2; try omega)

/-- WHAT THE LAWS HOLD OF THE SLICE THAT AKeyFromDigits HANDS BACK. -/
theorem got_cells (w' : World) (B N : Nat) (v' : Value) (hN : N < 18446744073709551616) (h : w'.ownsRow B 5 1 v' 8 (octCells N)) :
    ∃ g cap, v' = .slice (some ⟨g, 0, none⟩) 8 cap ∧ g < w'.heap.size ∧ ∀ j, j < 8 → w'.cell? ⟨g, 0 + j, none⟩ = some (.int .u8 (Ak.oct N j).toNat) := by
  obtain ⟨_, ⟨_, h0⟩ | ⟨g, cap, cur, rfl, _, hg, _, _, hsz, htk⟩⟩ := h
  · omega
  · refine ⟨g, cap, rfl, ?_, fun j hj => ?_⟩
    · rcases Nat.lt_or_ge g w'.heap.size with h' | h'
      · exact h'
      · simp [Array.getElem?_eq_none h'] at hg
    · rw [cell_of_row _ _ _ _ _ _ hg, Nat.zero_add, ← octCells_get N j hN hj, ← htk]
      rw [List.getElem?_take, if_pos (by omega), Array.getElem?_toList]

set_option maxRecDepth 100000 in
theorem exact_long (s : ByteArray) (w : World) (hs : 1024 < (s.size : Int)) :
    Calls Yba.prog 3 #[.string s] w fun e w' => e = .returned (.bool true) ∧ Below w.heap.size w w' := by
  go_enter Yba.func3, Yba.ntmps3
  go_wp2
  go_ret
  exact ⟨rfl, Below.refl _ _⟩

set_option maxRecDepth 100000 in
set_option maxHeartbeats 1000000 in
theorem exact_none (s : ByteArray) (w : World) (hs : s.size = 0) :
    Calls Yba.prog 3 #[.string s] w fun e w' => e = .returned (.bool true) ∧ Below w.heap.size w w' := by
  have h1 : ¬ (1 : Int) ≤ (s.size : Int) := by omega
  have h2 : ¬ (1024 : Int) < (s.size : Int) := by omega
  have hd : decide ((1 : Int) ≤ (s.size : Int)) = false := by simp; omega
  have C := akey_len s w (.inl (by omega)) (by omega)
  go_enter Yba.func3, Yba.ntmps3
  go_wp2_with (fail)
  go_loop [3, 4] (fun vo vi => ∃ k : Nat, k ≤ s.size ∧ vi = .int .i64 k ∧ vo = .bool false) (fun _ vi => s.size - (intOf vi).toNat)
  case atStart => exact ⟨0, Nat.zero_le _, rfl, rfl⟩
  case round =>
    obtain ⟨k, hk, rfl, rfl⟩ := hrel
    by_cases hlt : k < s.size
    · omega
    · have hge : ¬ (k : Int) < (s.size : Int) := by omega
      go_wp2_with (fail)
      refine C.mono ?_
      rintro e w1 ⟨a, rfl, B⟩
      have BB : Hid (Below w.heap.size w w1) := B
      have hsn := fun (W : World) => Lib.run_eql_slice_nil (P := Yba.prog) W 22 5 none 0 0 0 0 Yba.underlying22
      clear C B
      go_wp2
      go_ret
      exact ⟨rfl, BB.out⟩

set_option maxRecDepth 100000 in
set_option maxHeartbeats 1000000 in
theorem exact_many (s : ByteArray) (w : World) (hs : 20 < s.size) (hs2 : s.size ≤ 1024) :
    Calls Yba.prog 3 #[.string s] w fun e w' => e = .returned (.bool true) ∧ Below w.heap.size w w' := by
  have h1 : (1 : Int) ≤ (s.size : Int) := by omega
  have h2 : ¬ (1024 : Int) < (s.size : Int) := by omega
  have h3 : ¬ (s.size : Int) ≤ 20 := by omega
  have hd : decide ((s.size : Int) ≤ 20) = false := by simp; omega
  have C := akey_len s w (.inr (by omega)) (by omega)
  go_enter Yba.func3, Yba.ntmps3
  go_wp2_with (fail)
  go_loop [3, 4] (fun vo vi => ∃ k : Nat, k ≤ s.size ∧ vi = .int .i64 k ∧ vo = .bool false) (fun _ vi => s.size - (intOf vi).toNat)
  case atStart => exact ⟨0, Nat.zero_le _, rfl, rfl⟩
  case round =>
    obtain ⟨k, hk, rfl, rfl⟩ := hrel
    by_cases hlt : k < s.size
    · obtain ⟨c, hc⟩ : ∃ c, s.data.toList.getD k 0 = c := ⟨_, rfl⟩
      have hcs : s[k] = c := by rw [← hc, getD_byte s k hlt]; rfl
      have HT : Hid (Ak.dec (s.data.toList.take (k + 1)) = (Ak.dec (s.data.toList.take k) && Ak.isD c)) := by
        show _ = _
        rw [take_snoc s k hlt, dec_snoc, hc]
      have HCS : Hid (s[k] = c) := hcs
      clear hc hcs
      by_cases h1 : (c.toNat : Int) < 48
      · have h1' : (s[k].toNat : Int) < 48 := by rw [HCS.out]; exact h1
        go_wp2
        go_round
        case rel => exact ⟨k + 1, by omega, by go_num, rfl⟩
        case measure => simp [intOf]; omega
      · have h1' : ¬ (s[k].toNat : Int) < 48 := by rw [HCS.out]; exact h1
        by_cases h2 : 57 < (c.toNat : Int)
        · have h2' : 57 < (s[k].toNat : Int) := by rw [HCS.out]; exact h2
          go_wp2
          go_round
          case rel => exact ⟨k + 1, by omega, by go_num, rfl⟩
          case measure => simp [intOf]; omega
        · have h2' : ¬ 57 < (s[k].toNat : Int) := by rw [HCS.out]; exact h2
          go_wp2
          go_round
          case rel => exact ⟨k + 1, by omega, by go_num, rfl⟩
          case measure => simp [intOf]; omega
    · have hge : ¬ (k : Int) < (s.size : Int) := by omega
      go_wp2_with (fail)
      refine C.mono ?_
      rintro e w1 ⟨a, rfl, B⟩
      have BB : Hid (Below w.heap.size w w1) := B
      have hsn := fun (W : World) => Lib.run_eql_slice_nil (P := Yba.prog) W 22 5 none 0 0 0 0 Yba.underlying22
      clear C B
      go_wp2
      go_ret
      exact ⟨rfl, BB.out⟩

set_option maxRecDepth 100000 in
set_option maxHeartbeats 1000000 in
theorem exact_bad (s : ByteArray) (w : World) (hs : 1 ≤ s.size) (hs2 : s.size ≤ 20) (hdec : Ak.dec s.data.toList = false) :
    Calls Yba.prog 3 #[.string s] w fun e w' => e = .returned (.bool true) ∧ Below w.heap.size w w' := by
  have h1 : (1 : Int) ≤ (s.size : Int) := by omega
  have h2 : ¬ (1024 : Int) < (s.size : Int) := by omega
  have h3 : (s.size : Int) ≤ 20 := by omega
  have HDD : Hid (Ak.dec s.data.toList = false) := hdec
  have C := akey_bad s w hs hs2 hdec
  clear hdec
  go_enter Yba.func3, Yba.ntmps3
  go_wp2_with (fail)
  go_loop [3, 4] (fun vo vi => ∃ k : Nat, k ≤ s.size ∧ vi = .int .i64 k ∧ vo = .bool (Ak.dec (s.data.toList.take k))) (fun _ vi => s.size - (intOf vi).toNat)
  case atStart => exact ⟨0, Nat.zero_le _, rfl, rfl⟩
  case round =>
    obtain ⟨k, hk, rfl, rfl⟩ := hrel
    by_cases hlt : k < s.size
    · obtain ⟨c, hc⟩ : ∃ c, s.data.toList.getD k 0 = c := ⟨_, rfl⟩
      have hcs : s[k] = c := by rw [← hc, getD_byte s k hlt]; rfl
      have HT : Hid (Ak.dec (s.data.toList.take (k + 1)) = (Ak.dec (s.data.toList.take k) && Ak.isD c)) := by
        show _ = _
        rw [take_snoc s k hlt, dec_snoc, hc]
      have HCS : Hid (s[k] = c) := hcs
      clear hc hcs
      by_cases h1 : (c.toNat : Int) < 48
      · have h1' : (s[k].toNat : Int) < 48 := by rw [HCS.out]; exact h1
        go_wp2
        go_round
        case rel => exact ⟨k + 1, by omega, by go_num, by rw [HT.out, show Ak.isD c = false by simp [Ak.isD]; omega]; simp⟩
        case measure => simp [intOf]; omega
      · have h1' : ¬ (s[k].toNat : Int) < 48 := by rw [HCS.out]; exact h1
        by_cases h2 : 57 < (c.toNat : Int)
        · have h2' : 57 < (s[k].toNat : Int) := by rw [HCS.out]; exact h2
          go_wp2
          go_round
          case rel => exact ⟨k + 1, by omega, by go_num, by rw [HT.out, show Ak.isD c = false by simp [Ak.isD]; omega]; simp⟩
          case measure => simp [intOf]; omega
        · have h2' : ¬ 57 < (s[k].toNat : Int) := by rw [HCS.out]; exact h2
          go_wp2
          go_round
          case rel => exact ⟨k + 1, by omega, by go_num, by rw [HT.out, show Ak.isD c = true by simp [Ak.isD]; omega]; simp⟩
          case measure => simp [intOf]; omega
    · have hge : ¬ (k : Int) < (s.size : Int) := by omega
      rw [show Ak.dec (s.data.toList.take k) = false by rw [List.take_of_length_le (by simp; omega)]; exact HDD.out]
      go_wp2_with (fail)
      refine C.mono ?_
      rintro e w1 ⟨a, rfl, B⟩
      have BB : Hid (Below w.heap.size w w1) := B
      have hsn := fun (W : World) => Lib.run_eql_slice_nil (P := Yba.prog) W 22 5 none 0 0 0 0 Yba.underlying22
      clear C B
      go_wp2
      go_ret
      exact ⟨rfl, BB.out⟩

set_option maxRecDepth 100000 in
set_option maxHeartbeats 1000000 in
theorem exact_good (s : ByteArray) (w : World) (hs : 1 ≤ s.size) (hs2 : s.size ≤ 20) (hdec : Ak.dec s.data.toList = true) :
    Calls Yba.prog 3 #[.string s] w fun e w' => e = .returned (.bool true) ∧ Below w.heap.size w w' := by
  have h1 : (1 : Int) ≤ (s.size : Int) := by omega
  have h2 : ¬ (1024 : Int) < (s.size : Int) := by omega
  have h3 : (s.size : Int) ≤ 20 := by omega
  have HDD : Hid (Ak.dec s.data.toList = true) := hdec
  have C := akey_good s w hs hs2 hdec
  clear hdec
  go_enter Yba.func3, Yba.ntmps3
  go_wp2_with (fail)
  go_loop [3, 4] (fun vo vi => ∃ k : Nat, k ≤ s.size ∧ vi = .int .i64 k ∧ vo = .bool (Ak.dec (s.data.toList.take k))) (fun _ vi => s.size - (intOf vi).toNat)
  case atStart => exact ⟨0, Nat.zero_le _, rfl, rfl⟩
  case round =>
    obtain ⟨k, hk, rfl, rfl⟩ := hrel
    by_cases hlt : k < s.size
    · obtain ⟨c, hc⟩ : ∃ c, s.data.toList.getD k 0 = c := ⟨_, rfl⟩
      have hcs : s[k] = c := by rw [← hc, getD_byte s k hlt]; rfl
      have HT : Hid (Ak.dec (s.data.toList.take (k + 1)) = (Ak.dec (s.data.toList.take k) && Ak.isD c)) := by
        show _ = _
        rw [take_snoc s k hlt, dec_snoc, hc]
      have HCS : Hid (s[k] = c) := hcs
      clear hc hcs
      by_cases h1 : (c.toNat : Int) < 48
      · have h1' : (s[k].toNat : Int) < 48 := by rw [HCS.out]; exact h1
        go_wp2
        go_round
        case rel => exact ⟨k + 1, by omega, by go_num, by rw [HT.out, show Ak.isD c = false by simp [Ak.isD]; omega]; simp⟩
        case measure => simp [intOf]; omega
      · have h1' : ¬ (s[k].toNat : Int) < 48 := by rw [HCS.out]; exact h1
        by_cases h2 : 57 < (c.toNat : Int)
        · have h2' : 57 < (s[k].toNat : Int) := by rw [HCS.out]; exact h2
          go_wp2
          go_round
          case rel => exact ⟨k + 1, by omega, by go_num, by rw [HT.out, show Ak.isD c = false by simp [Ak.isD]; omega]; simp⟩
          case measure => simp [intOf]; omega
        · have h2' : ¬ 57 < (s[k].toNat : Int) := by rw [HCS.out]; exact h2
          go_wp2
          go_round
          case rel => exact ⟨k + 1, by omega, by go_num, by rw [HT.out, show Ak.isD c = true by simp [Ak.isD]; omega]; simp⟩
          case measure => simp [intOf]; omega
    · have hge : ¬ (k : Int) < (s.size : Int) := by omega
      rw [show Ak.dec (s.data.toList.take k) = true by rw [List.take_of_length_le (by simp; omega)]; exact HDD.out]
      go_wp2_with (fail)
      refine C.mono ?_
      rintro e w1 ⟨v', w0, rfl, own, B0, B1⟩
      obtain ⟨g, cap, hv', hg, hcells⟩ := got_cells w1 _ _ v' (Ak.num_lt _) own
      rw [hv']
      have BB : Hid (Below w.heap.size w w1) := B0.trans (B1.mono B0.size)
      clear C B0 B1 own hv'
      go_wp2_with (fail)
      refine (model_any s _ (by omega)).mono ?_
      rintro e w2 ⟨rfl, B2⟩
      have hc2 : ∀ j, j < 8 → w2.cell? ⟨g, 0 + j, none⟩ = some (.int .u8 (Ak.oct (Ak.num s.data.toList) j).toNat) := fun j hj => by rw [B2.cell (p := ⟨g, 0 + j, none⟩) hg]; exact hcells j hj
      have hg2 : g < w2.heap.size := Nat.lt_of_lt_of_le hg B2.size
      have B3 : Hid (Below w.heap.size w w2) := BB.out.trans (B2.mono BB.out.size)
      clear hcells hg B2
      go_wp2_with (fail)
      refine (same_any g cap (Ak.oct (Ak.num s.data.toList)) w2 hg2 hc2).mono ?_
      rintro e w3 ⟨rfl, B4⟩
      have B5 : Hid (Below w.heap.size w w3) := B3.out.trans (B4.mono B3.out.size)
      clear B4 hc2 hg2
      go_wp2_with (fail)
      go_ret
      exact ⟨rfl, B5.out⟩

#print axioms exact_good
#print axioms exact_bad
#print axioms exact_none
#print axioms exact_many
end Go.Proofs.Ybulkbjhg
