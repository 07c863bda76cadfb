/-
  THE WALK OF cave.tradeBits (24).
-/
import Derived.Test.YbulkbjhgDoorSmall
import Derived.BigRegion
namespace Go.Proofs.YbulkbjhgDoor
open Go.RowKit Go.Sort

/-- A byte as the machine holds it. -/
abbrev u8v (x : UInt8) : Value := .int .u8 x.toNat

set_option maxRecDepth 100000 in
theorem tradeBits_any (kb ko kl kc mb mo mc i : Nat) (K I : Nat → UInt8) (d : Array UInt8) (a : UInt8) (w : World) (h1 : 1 ≤ kl) (h2 : kl ≤ 1024) (hi1 : 1 ≤ i) (hid : i < d.size) (hd : d.size ≤ 1024)
   (hk : ∀ j, j < kl → w.cell? ⟨kb, ko + j, none⟩ = some (.int .u8 (K j).toNat))
   (hi : ∀ j, j < 256 → w.cell? ⟨2, j, none⟩ = some (.int .u8 (I j).toNat))
   (hH : Holds u8v w mb mo d) :
   Calls Ybad.prog 24 #[.slice (some ⟨kb, ko, none⟩) kl kc, .slice (some ⟨mb, mo, none⟩) d.size mc, .int .i64 i, .int .u8 a.toNat] w fun e w' =>
     e = .returned (.tuple #[]) ∧ ∃ n, w' = (putRow u8v w mb mo (Ec.trade (Ec.et I K kl) d i a)).drewN n := by
  obtain ⟨p, rfl⟩ : ∃ p, i = p + 1 := ⟨i - 1, by omega⟩
  obtain ⟨x0, hx0⟩ : ∃ x, d[p]! = x := ⟨_, rfl⟩
  obtain ⟨x1, hx1⟩ : ∃ x, d[p + 1]! = x := ⟨_, rfl⟩
  obtain ⟨x, hx⟩ : ∃ x, x0 ^^^ x1 = x := ⟨_, rfl⟩
  obtain ⟨z, hz⟩ : ∃ z, x ^^^ a = z := ⟨_, rfl⟩
  obtain ⟨e, he⟩ : ∃ e, Ec.et I K kl z = e := ⟨_, rfl⟩
  obtain ⟨y, hy⟩ : ∃ y, x &&& e = y := ⟨_, rfl⟩
  obtain ⟨r0, hr0⟩ : ∃ r, x0 ^^^ y = r := ⟨_, rfl⟩
  obtain ⟨r1, hr1⟩ : ∃ r, x1 ^^^ y = r := ⟨_, rfl⟩
  have c0 : w.cell? ⟨mb, mo + p, none⟩ = some (.int .u8 x0.toNat) := by rw [(hH p (by omega)).1, hx0]
  have c1 : w.cell? ⟨mb, mo + (p + 1), none⟩ = some (.int .u8 x1.toNat) := by rw [(hH (p + 1) (by omega)).1, hx1]
  have f0 := (hH p (by omega)).2
  have f1 := (hH (p + 1) (by omega)).2
  have b1 := xor_int x0 x1
  have b2 := xor_int x a
  have b3 := and_int x e
  have b4 := xor_int x0 y
  have b5 := xor_int x1 y
  rw [hx] at b1
  rw [hz] at b2
  rw [hy] at b3
  rw [hr0] at b4
  rw [hr1] at b5
  have HT : Hid (putRow u8v w mb mo (Ec.trade (Ec.et I K kl) d (p + 1) a) = (w.setCell ⟨mb, mo + p, none⟩ (u8v r0)).setCell ⟨mb, mo + (p + 1), none⟩ (u8v r1)) := by
    show _ = _
    have hp := putRow_self u8v w mb mo d hH
    rw [← hp, putRow_set u8v w mb mo d p r0 (by omega), putRow_set u8v w mb mo _ (p + 1) r1 (by simpa using hid), putRow_putRow _ _ _ _ _ _ (by simp [Ec.size_trade])]
    congr 1
    simp only [Ec.trade, Nat.add_sub_cancel, hx0, hx1, hx, hz, he, hy, hr0, hr1]
  have HE : Hid (Ec.et I K kl z = e) := he
  clear hH hx0 hx1 hx hz he hy hr0 hr1
  go_enter Ybad.func24, Ybad.ntmps24
  go_wp2
  go_quiet (fail)
  go_wp2_with (fail)
  refine (etbox_any kb ko kl kc K I z (w.drewN nq) h1 h2 hk hi).mono ?_
  rw [HE.out]
  rintro e w' ⟨rfl, m, rfl⟩
  go_wp2
  go_end0
  refine ⟨rfl, nq + m, ?_⟩
  rw [HT.out]
  rfl
#print axioms tradeBits_any
end Go.Proofs.YbulkbjhgDoor
