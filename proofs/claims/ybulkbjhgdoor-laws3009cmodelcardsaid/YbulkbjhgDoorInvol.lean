/-
  etbox UNDER AN 8-OCTET KEY IS ITS OWN INVERSE, as ibox is. No Go in sight but the table's numbers.
-/
import Derived.Test.YbulkbjhgDoorTrip
namespace Go.Proofs.YbulkbjhgDoor.Ec

theorem et8 (I K : Nat → UInt8) (hI : ∀ x : UInt8, I (I x.toNat).toNat = x) (z : UInt8) : et I K 8 (et I K 8 z) = z := by
  simp only [et, upT, dnF, stepU, stepD, Nat.reduceSub, Nat.reduceMod, Nat.reduceAdd, if_true, if_false, UInt8.sub_add_cancel, UInt8.add_sub_cancel, hI, xx, Nat.one_ne_zero]
/-- ibox, as the program's text lays it. -/
def iboxZ : List Int := [221, 243, 247, 144, 11, 245, 26, 72, 32, 60, 132, 4, 25, 22, 34, 71, 109, 168, 142, 200, 159, 141, 13, 181, 194, 12, 6, 47, 67, 96, 240, 164, 8, 153, 14, 54, 152, 61, 46, 129, 203, 171, 92, 213, 63, 238, 38, 27, 148, 217, 252, 104, 222, 205, 35, 237, 150, 197, 220, 69, 9, 37, 79, 44, 98, 83, 191, 28, 149, 59, 137, 15, 7, 86, 127, 189, 170, 183, 255, 62, 134, 119, 84, 65, 82, 212, 73, 184, 199, 158, 130, 113, 42, 208, 120, 156, 29, 106, 64, 174, 244, 175, 242, 233, 51, 128, 97, 180, 192, 16, 167, 187, 182, 91, 115, 114, 121, 124, 140, 81, 94, 116, 251, 230, 117, 214, 239, 74, 105, 39, 90, 179, 10, 232, 80, 160, 202, 70, 195, 234, 118, 21, 18, 198, 3, 151, 163, 209, 48, 68, 56, 145, 36, 33, 193, 219, 95, 227, 89, 20, 135, 162, 161, 146, 31, 226, 188, 110, 17, 190, 76, 41, 228, 201, 99, 101, 204, 250, 241, 131, 107, 23, 112, 77, 87, 211, 254, 111, 166, 75, 169, 66, 108, 154, 24, 138, 210, 57, 143, 88, 19, 173, 136, 40, 176, 53, 215, 225, 93, 147, 196, 185, 85, 43, 125, 206, 224, 49, 253, 155, 58, 0, 52, 229, 216, 207, 165, 157, 172, 223, 123, 249, 133, 103, 139, 246, 248, 55, 45, 126, 30, 178, 102, 1, 100, 5, 235, 2, 236, 231, 177, 122, 50, 218, 186, 78]
theorem iboxZ_length : iboxZ.length = 256 := by decide +kernel
def ibox (j : Nat) : UInt8 := UInt8.ofNat (iboxZ.getD j 0).toNat
theorem ibox_facts : ∀ n : Nat, n < 256 → ibox (ibox n).toNat = UInt8.ofNat n ∧ ((ibox n).toNat : Int) = iboxZ.getD n 0 := by decide +kernel
theorem ibox_ibox (x : UInt8) : ibox (ibox x.toNat).toNat = x := by
  have := (ibox_facts x.toNat x.toNat_lt).1
  rwa [UInt8.ofNat_toNat] at this
theorem etbox_invol (K : Nat → UInt8) (z : UInt8) : et ibox K 8 (et ibox K 8 z) = z := et8 ibox K ibox_ibox z
#print axioms etbox_invol
end Go.Proofs.YbulkbjhgDoor.Ec
