import Derived.Test.YbulkbjhgDigits
import Derived.OwnWalk
import Derived.Lib.Endian
namespace Go.Proofs.Ybulkbjhg
open Go.RowKit
/-- The eight octets' cells. -/
def octCells (v : Nat) : List Value := [Value.int .u8 ((v : Int) / 72057594037927936), Value.int .u8 ((v : Int) / 281474976710656 % 256), Value.int .u8 ((v : Int) / 1099511627776 % 256), Value.int .u8 ((v : Int) / 4294967296 % 256), Value.int .u8 ((v : Int) / 16777216 % 256), Value.int .u8 ((v : Int) / 65536 % 256), Value.int .u8 ((v : Int) / 256 % 256), Value.int .u8 ((v : Int) % 256)]
set_option maxHeartbeats 2000000 in
set_option maxRecDepth 100000 in
theorem append_any (v : Nat) (hv : v < 18446744073709551616) (w : World) :
    Calls Yba.prog 10 #[.agg #[], .slice none 0 0, .int .u64 v] w fun e w' => ∃ v', e = .returned v' ∧ w'.ownsRow w.heap.size 5 1 v' 8 (octCells v) ∧ Below w.heap.size w w' := by
  obtain ⟨i0, hi, hz0⟩ := Option.map_eq_some_iff.1 (show (Yba.prog.info? 5).map (fun i => (i.zero, i.size, i.bytes)) = some (some (.int .u8 0), 1, 1) by kernel_rfl)
  simp only [Prod.mk.injEq] at hz0
  obtain ⟨hz0, hz1, hz2⟩ := hz0
  have hown : w.ownsRow w.heap.size 5 1 (.slice none 0 0) 0 [] := ⟨rfl, .inl ⟨rfl, rfl⟩⟩
  go_enter Yba.func10, Yba.ntmps10
  go_wp2_with (at_builtin; refine wpList_append_own _ rfl _ _ 22 rfl w.heap.size 5 i0 (.int .u8 0) 1 1 Yba.underlying22 hi hz0 hz1 hz2 rfl (by decide) _ _ _ rfl ((hown.alloc _).alloc _) _ 8 8 [Value.int .u8 ((v : Int) / 72057594037927936), Value.int .u8 ((v : Int) / 281474976710656 % 256), Value.int .u8 ((v : Int) / 1099511627776 % 256), Value.int .u8 ((v : Int) / 4294967296 % 256), Value.int .u8 ((v : Int) / 16777216 % 256), Value.int .u8 ((v : Int) / 65536 % 256), Value.int .u8 ((v : Int) / 256 % 256), Value.int .u8 ((v : Int) % 256)] rfl rfl ?c1 ?c2 ?c3 ?c4 ?c5 ?_)
  case c1 =>
    intro j u hj
    match j, hj with
    | 0, hj => simp at hj; subst hj; simp [Addr.add]
    | 1, hj => simp at hj; subst hj; simp [Addr.add]
    | 2, hj => simp at hj; subst hj; simp [Addr.add]
    | 3, hj => simp at hj; subst hj; simp [Addr.add]
    | 4, hj => simp at hj; subst hj; simp [Addr.add]
    | 5, hj => simp at hj; subst hj; simp [Addr.add]
    | 6, hj => simp at hj; subst hj; simp [Addr.add]
    | 7, hj => simp at hj; subst hj; simp [Addr.add]
  case c2 => intro u hu; simp at hu; rcases hu with rfl | rfl | rfl | rfl | rfl | rfl | rfl | rfl <;> rfl
  case c3 => unfold maxLen; omega
  case c4 => omega
  case c5 => simp; omega
  intro v' w2 hown' hgrow _
  go_wp2
  go_ret
  refine ⟨v', rfl, hown', ?_⟩
  exact ((((Below.refl _ w).alloc (Nat.le_refl _) _).alloc (by simp) _).grown hgrow (by simp; omega) (fun k hk => by cases hk))
#print axioms append_any
end Go.Proofs.Ybulkbjhg
