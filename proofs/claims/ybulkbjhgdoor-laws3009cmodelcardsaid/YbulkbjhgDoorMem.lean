/-
  MEMORY THAT THE LAWS OVER ECMEA MAKE: a new row of bytes, a copy into it.
-/
import Derived.Test.YbulkbjhgDoorTransform
import Derived.Deep.OwnRows
import Derived.Lib.RowBridge
import Derived.Laws.IdiomCopy
import Derived.ChangeKeysEq
namespace Go.Proofs.YbulkbjhgDoor
open Go.RowKit Go.Sort Go.Deep

/-- The block that make([]byte, n) lays. -/
def zrow (n : Nat) : Obj := .cells (madeCells #[.int .u8 0] n) 5
theorem make_zrow (n : Nat) (hn : n ≤ 1024) (w : World) :
    (Instr.makeSlice 27 (.int .i64 (n : Int)) (.int .i64 (n : Int))).run Ybad.prog w = .ok (.slice (some ⟨w.heap.size, 0, none⟩) n n) (w.alloc (zrow n)) :=
  run_make_row' 27 5 (.int .u8 0) 1 Ybad.underlying27 (by kernel_rfl) rfl .i64 .i64 n (by omega) (by omega) w
theorem made_get (n j : Nat) (h : j < n) : (madeCells #[.int .u8 0] n)[j]? = some (Value.int .u8 0) := by
  simp [madeCells, h]
  rw [Nat.mod_one]
  rfl
theorem holds_zrow (W : World) (g n : Nat) (hg : W.heap[g]? = some (zrow n)) : Holds u8v W g 0 (Array.replicate n 0) := by
  intro j hj
  have hj' : j < n := by simpa using hj
  refine ⟨?_, frozen_of_row W g _ _ _ hg⟩
  rw [cell_of_row W g _ _ _ _ hg, Nat.zero_add, made_get n j hj', getElem!_pos _ j hj]
  simp
theorem copy_zrow (W : World) (g sb so n sc : Nat) (d : Array UInt8) (hd : d.size = n) (hg : W.heap[g]? = some (zrow n))
    (hm : ∀ j, j < n → W.cell? ⟨sb, so + j, none⟩ = some (.int .u8 d[j]!.toNat)) :
    (Builtin.copy_ #[27, 27] 3 #[.slice (some ⟨g, 0, none⟩) n n, .slice (some ⟨sb, so, none⟩) n sc]).run Ybad.prog W = .ok (.int .i64 n) (putRow u8v W g 0 d) := by
  have hH := holds_zrow W g n hg
  have h := run_copy_cells (P := Ybad.prog) W 27 27 3 5 g 0 n n ⟨sb, so, none⟩ n sc (d.toList.map u8v) Ybad.underlying27 (by kernel_rfl) (by simp [hd])
    (by
      intro j v hv
      have hj : j < d.size := by
        have := (List.getElem?_eq_some_iff.1 hv).1
        simpa using this
      rw [show (⟨sb, so, none⟩ : Addr).add j = ⟨sb, so + j, none⟩ by unfold Addr.add; split <;> simp_all]
      rw [hm j (by omega), ← hv, getElem!_pos d j hj]
      simp [hj])
    (by
      intro j hj
      rw [(hH j (by simp at hj ⊢; omega)).1]
      rfl)
    (by
      intro j hj
      exact (hH j (by simp at hj ⊢; omega)).2)
    (by
      intro v hv
      obtain ⟨x, _, rfl⟩ := List.mem_map.1 hv
      rfl)
  rw [h]
  have e := Lib.putRow_eq_setCells u8v W g 0 (Array.replicate n 0) d.toList 0 hH (by simp [hd])
  simp only [Sort.ahead_zero] at e
  rw [show W.drewN 0 = W from rfl] at e
  rw [← e]
  simp [hd, goInt]

/-! ### '==' between two [8]byte of the same octets (the kit's walk has no law for '==' of arrays) -/
theorem part_u8 (xs : Array Value) (i : Nat) (k : Int) (h : xs[i]? = some (.int .u8 k)) (w : World) : (part 5 xs i).run Ybad.prog w = .ok (.int .u8 k) w := by
  simp [part, h]
theorem items_same (xs : Array Value) (d : Nat) (is : List Nat) (h : ∀ i ∈ is, ∃ k, xs[i]? = some (.int .u8 k)) (w : World) : (Op.eqItems (d + 1) 5 1 xs xs is).run Ybad.prog w = .ok true w := by
  induction is with
  | nil => simp [Op.eqItems]
  | cons i is ih =>
    obtain ⟨k, hk⟩ := h i (by simp)
    have := ih (fun j hj => h j (by simp [hj]))
    simp [Op.eqItems, part_u8 xs i k hk w, run_equalIn_int (P := Ybad.prog) w d 5 .u8 .u8 k k Ybad.underlying5, this]
theorem eq_arr8 (k0 k1 k2 k3 k4 k5 k6 k7 : Int) (w : World) : (Op.equalIn 10000 36 (.agg #[.int .u8 k0, .int .u8 k1, .int .u8 k2, .int .u8 k3, .int .u8 k4, .int .u8 k5, .int .u8 k6, .int .u8 k7]) (.agg #[.int .u8 k0, .int .u8 k1, .int .u8 k2, .int .u8 k3, .int .u8 k4, .int .u8 k5, .int .u8 k6, .int .u8 k7])).run Ybad.prog w = .ok true w := by
  obtain ⟨i, hi, _⟩ := Option.map_eq_some_iff.1 (show (Ybad.prog.info? 5).map (·.size) = some 1 by kernel_rfl)
  rw [run_equalIn_array w 9999 _ _ Ybad.underlying36 hi, show Ybad.prog.cellsOf 5 = 1 by kernel_rfl]
  refine items_same _ 9998 _ ?_ w
  intro j hj
  have hj8 : j < 8 := by simpa using hj
  have hc : j = 0 ∨ j = 1 ∨ j = 2 ∨ j = 3 ∨ j = 4 ∨ j = 5 ∨ j = 6 ∨ j = 7 := by omega
  rcases hc with rfl | rfl | rfl | rfl | rfl | rfl | rfl | rfl <;> exact ⟨_, rfl⟩
end Go.Proofs.YbulkbjhgDoor
