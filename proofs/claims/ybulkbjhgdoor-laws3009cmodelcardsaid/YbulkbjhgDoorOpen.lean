/-
  OPENING THE ARGUMENTS AND THE LISTED TABLE ibox: shared by the laws over ECMEA.
-/
import Derived.Test.YbulkbjhgDoorRows
import Derived.Test.YbulkbjhgDoorInvol
import Derived.WalkKit
import Derived.ProofKit
import Derived.OpenShut
import Derived.ChangeOld
import Derived.Below
import Derived.LaidMore
import Derived.Stop.Joined
import Derived.Lib.LaidTab
import Derived.WalkSmall
namespace Go.Proofs.YbulkbjhgDoor
open Go.ChangeShapes Go.WideShapes Go.ChangeAt Go.RowKit

theorem own : ownKnob Ybad.prog.godebug = none := by kernel_rfl
theorem laidOut : laidOutB Ybad.prog = true := by kernel_rfl
/-- The name of the variable ibox, as the rows list it. -/
abbrev iboxName : String := Rows.lawS3009CRoundTripSpec.vars.headD ""
theorem gIbox : Ybad.prog.globalNamed iboxName = some 2 := by kernel_rfl
theorem tIbox : (Ybad.prog.globals[2]?).map (·.type) = some 44 := by kernel_rfl
theorem cells5 : Ybad.prog.cellsOf 5 = 1 := by kernel_rfl
theorem cells36 : Ybad.prog.cellsOf 36 = 8 := by kernel_rfl
theorem cells44 : Ybad.prog.cellsOf 44 = 256 := by kernel_rfl
theorem ibox_datum : (Rows.laid_example_com_roamkey_roamkey_cave_ibox : DataW Unit) = Lib.tabData .u8 Ec.iboxZ := by kernel_rfl

/-- WHAT THE ROW's CONDITION GIVES A WALK: ibox's cells. -/
theorem ibox_cells {W : World} (h : laidMetH Ybad.prog [(iboxName, Rows.laid_example_com_roamkey_roamkey_cave_ibox)] W) :
    ∀ j, j < 256 → W.cell? ⟨2, j, none⟩ = some (.int .u8 (Ec.ibox j).toNat) := by
  rw [MakeChecks.laidMetH_plain _ _ _ (by kernel_rfl), ibox_datum] at h
  have hT := Lib.tabIs_of_head gIbox tIbox Ybad.underlying44 Ybad.underlying5 cells5 cells44 h
  intro j hj
  rw [hT.cell gIbox j (by rw [Ec.iboxZ_length]; exact hj), (Ec.ibox_facts j hj).2]

theorem byte_of {n : Int} (h : (Lit.int .u8 n).wf = true) : ((UInt8.ofNat n.toNat).toNat : Int) = n := by
  have := bounds_u8 h
  rw [UInt8.toNat_ofNat']
  omega

/-- A [8]byte that came in. -/
theorem open_key {H : Type} {enc : TypeId × Value → H} {W : World} {base : Nat} {v : Value} {d : DataW H} {p : List MemPlace} (hv : Value.okWide Ybad.prog W .any base 36 v) (h : DataW.Trod enc Ybad.prog W 0 (fun _ => true) true 36 v d p) :
    ∃ k0 k1 k2 k3 k4 k5 k6 k7 : UInt8, v = .agg #[.int .u8 k0.toNat, .int .u8 k1.toNat, .int .u8 k2.toNat, .int .u8 k3.toNat, .int .u8 k4.toNat, .int .u8 k5.toNat, .int .u8 k6.toNat, .int .u8 k7.toNat] := by
  simp only [Value.okWide, Ybad.underlying36] at hv
  obtain ⟨cs, rfl, hsz, _⟩ := hv
  rw [cells36] at hsz
  obtain ⟨fuel, hf⟩ := h
  obtain ⟨xs, m, _, _, _, hxl, hel⟩ := DataW.trod_array Ybad.underlying36 hf
  have hat : ∀ i, i < 8 → ∃ u : UInt8, cs[i]? = some (.int .u8 u.toNat) := by
    intro i hi
    have h1 := hel i hi
    rw [cells5, Nat.mul_one, List.getElem?_eq_getElem (by omega)] at h1
    obtain ⟨n, hc, _, hw⟩ := DataW.trod_int Ybad.underlying5 h1
    refine ⟨UInt8.ofNat n.toNat, ?_⟩
    rw [byte_of hw]
    have := congrArg (·[0]?) hc
    simpa [Value.cells, List.getElem?_take, List.getElem?_drop] using this
  obtain ⟨k0, h0⟩ := hat 0 (by omega)
  obtain ⟨k1, h1⟩ := hat 1 (by omega)
  obtain ⟨k2, h2⟩ := hat 2 (by omega)
  obtain ⟨k3, h3⟩ := hat 3 (by omega)
  obtain ⟨k4, h4⟩ := hat 4 (by omega)
  obtain ⟨k5, h5⟩ := hat 5 (by omega)
  obtain ⟨k6, h6⟩ := hat 6 (by omega)
  obtain ⟨k7, h7⟩ := hat 7 (by omega)
  refine ⟨k0, k1, k2, k3, k4, k5, k6, k7, ?_⟩
  congr 1
  apply Array.ext_getElem?
  intro i
  by_cases hi : i < 8
  · have hc : i = 0 ∨ i = 1 ∨ i = 2 ∨ i = 3 ∨ i = 4 ∨ i = 5 ∨ i = 6 ∨ i = 7 := by omega
    rcases hc with rfl | rfl | rfl | rfl | rfl | rfl | rfl | rfl
    · exact h0
    · exact h1
    · exact h2
    · exact h3
    · exact h4
    · exact h5
    · exact h6
    · exact h7
  · rw [Array.getElem?_eq_none (by omega), Array.getElem?_eq_none (by simp; omega)]

/-- WHAT A WALK IS TOLD OF A []byte THAT CAME IN: it has no element; or its elements are the octets d, at these cells. -/
def IsBytes (W : World) (a : Option Addr) (len : Nat) (d : Array UInt8) : Prop :=
  d.size = len ∧ (len = 0 ∨ ∃ b off, a = some ⟨b, off, none⟩ ∧ ∀ j, j < len → W.cell? ⟨b, off + j, none⟩ = some (.int .u8 d[j]!.toNat))

theorem open_bytes {H : Type} {enc : TypeId × Value → H} {W : World} {a0 : Option Addr} {len cap : Nat} {d : DataW H} {p : List MemPlace} (h : DataW.Trod enc Ybad.prog W 0 (fun _ => true) true 27 (.slice a0 len cap) d p) :
    ∃ ds, IsBytes W a0 len ds := by
  obtain ⟨fuel, hf⟩ := h
  rcases open_ints Ybad.underlying27 Ybad.underlying5 cells5 hf with ⟨hcs, _⟩ | ⟨x, l, c, zs, hcs, _, hl, hm, hz, _, hcell, hwz⟩
  · simp [Value.cells] at hcs
    obtain ⟨rfl, rfl, rfl⟩ := hcs
    exact ⟨#[], rfl, .inl rfl⟩
  · simp [Value.cells] at hcs
    obtain ⟨rfl, rfl, rfl⟩ := hcs
    simp only [if_true] at hz
    by_cases h0 : len = 0
    · exact ⟨#[], by simp [h0], .inl h0⟩
    · obtain ⟨b, off, spot⟩ := x
      have hspot : spot = none := by simpa [Addr.add] using World.cell?_spot (hcell 0 (by omega))
      subst hspot
      refine ⟨((zs.take len).map fun n => UInt8.ofNat n.toNat).toArray, by simp; omega, .inr ⟨b, off, rfl, fun j hj => ?_⟩⟩
      have hjz : j < zs.length := by omega
      have hc := hcell j hjz
      rw [add_plain] at hc
      rw [hc]
      have hj2 : j < (((zs.take len).map fun n => UInt8.ofNat n.toNat).toArray).size := by simp; omega
      rw [getElem!_pos _ j hj2]
      simp only [List.getElem_toArray, List.getElem_map, List.getElem_take]
      rw [List.getD_eq_getElem?_getD, List.getElem?_eq_getElem hjz, Option.getD_some]
      rw [byte_of (hwz _ (List.getElem_mem hjz))]
end Go.Proofs.YbulkbjhgDoor
