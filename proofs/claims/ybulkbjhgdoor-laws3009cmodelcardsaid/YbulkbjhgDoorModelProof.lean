/-
  'Rows.LawS3009CModelCardSaid' PROVED: the row, then the tied card.
-/
import Derived.Test.YbulkbjhgDoorOpen
import Derived.Test.YbulkbjhgDoorModelWalk
import Derived.Test.YbulkbjhgDoorTie
import Derived.Test.YbulkbjhgDoorCards
import Derived.SevenTiedAt
namespace Go.Proofs.YbulkbjhgDoor.Model
open Go.ChangeShapes Go.WideShapes Go.ChangeAt Go.RowKit

abbrev laid1 : List (String × DataW Unit) := [(iboxName, Rows.laid_example_com_roamkey_roamkey_cave_ibox)]

/-- The door's own heap meets the condition. -/
theorem door_met (os : Os) (args : Array Value) : laidMetH Ybad.prog laid1 ((World.doorLaid Ybad.prog 19 os).forCall (fun _ _ => 0) ⟨#[], args, []⟩).memory :=
  laidMetH_of_parts3 (fuel := 8) (laidMet_of_run' 8 (by kernel_rfl) (by kernel_rfl)) (by kernel_rfl) (by kernel_rfl)

set_option maxRecDepth 100000 in
theorem lifted (os : Os) (started : os.Started) (H : Type) (enc : TypeId × Value → H) :
    ReturnsInHanded {} Ybad.checked os 5 .any (fun w args => (Rows.lawS3009CModelSpec.pre enc Ybad.prog Ybad.f5 [] false w args ∧ laidMetH Ybad.prog laid1 w) ∧ sizedMet enc Ybad.prog Ybad.f5 (OpenSpec.ofChange Rows.lawS3009CModelSpec) false w args)
      (Rows.lawS3009CModelSpec.post enc Ybad.prog Ybad.f5 false true false false) := by
  refine returnsInHanded_of_change_and (C := Ybad.checked) (X := fun w _ => laidMetH Ybad.prog laid1 w) (fun _ _ _ hh h => h.of_heap hh) own started (by kernel_rfl) Ybad.func5
    (ChangeSpec.witness_shaped (enc := enc) (C := Ybad.checked) (os := os) (X := fun w _ => laidMetH Ybad.prog laid1 w) false (World.doorLaid Ybad.prog 19 os)
      #[.slice none 0 0, .slice none 0 0, .int .u8 0, .int .u8 0] 8 rfl (World.shaped_of_RefB (by kernel_rfl) (by kernel_rfl)) (by kernel_rfl) (by kernel_rfl) (by kernel_rfl) (door_met os _)) ?_
  intro W base args ds gs before hval0 hW _ _ hL _
  have hval : ∀ (j : Nat) t v, Ybad.f5.params[j]? = some t → args[j]? = some v → Value.okWide Ybad.prog W .any base t v := hval0
  have hW' := hW
  obtain ⟨p, q, hA0, hV0, rfl, hfz, hnd⟩ := hW
  have hA : DataW.TrodAll enc Ybad.prog W 0 (fun _ => true) true Ybad.f5.params.toList args.toList ds p := hA0
  have hV : DataW.TrodVars enc Ybad.prog W (fun _ => true) [iboxName] gs q := hV0
  rw [Ybad.params5] at hA hval
  obtain ⟨v0, v1, v2, v3, d0, d1, d2, d3, p0, p1, p2, p3, rfl, rfl, rfl, h0, h1, h2, h3⟩ := trodAll_four hA
  obtain ⟨g, t, cs, fuel, d, p', rfl, hg, ht, hvar, hd, rfl⟩ := trodVars_one hV
  obtain rfl := Option.some.inj (gIbox.symm.trans hg)
  obtain rfl := Option.some.inj (tIbox.symm.trans ht)
  have hcells := ibox_cells hL
  have h2lt : 2 < W.heap.size := block_lt_of_cell (hcells 0 (by omega))
  have hltv : ∀ x ∈ p', x.block < W.heap.size := fun x hx => hW'.lt x (List.mem_append_right _ (List.mem_append_right _ hx))
  have lt0 : ∀ x ∈ p0, x.block < W.heap.size := by obtain ⟨m, hm⟩ := h0; exact DataW.trod_lt m _ _ _ hm
  have lt1 : ∀ x ∈ p1, x.block < W.heap.size := by obtain ⟨m, hm⟩ := h1; exact DataW.trod_lt m _ _ _ hm
  obtain ⟨k0, klen, kcap, rfl⟩ := okWide_slice Ybad.underlying27 (hval 0 27 v0 rfl rfl)
  obtain ⟨kdb, hkdb⟩ := open_bytes h0
  obtain ⟨a0, len, cap, rfl⟩ := okWide_slice Ybad.underlying27 (hval 1 27 v1 rfl rfl)
  obtain ⟨db, hdb⟩ := open_bytes h1
  obtain ⟨a, rfl, rfl, rfl, wa⟩ := open_int Ybad.underlying5 (hval 2 5 v2 rfl rfl) h2
  obtain ⟨b, rfl, rfl, rfl, wb⟩ := open_int Ybad.underlying5 (hval 3 5 v3 rfl rfl) h3
  clear hA0 hV0 hval0 hA hV hval hL
  have fin : ∀ W', Below W.heap.size W W' → Rows.lawS3009CModelSpec.post enc Ybad.prog Ybad.f5 false true false false W
      #[.slice k0 klen kcap, .slice a0 len cap, .int .u8 a, .int .u8 b] (.bool true) W' := by
    intro W' bel
    obtain ⟨fuel', hd'⟩ := Below.trod laidOut (by kernel_rfl) (of_decide_eq_true (by kernel_rfl)) (v := .agg cs) (⟨fuel, by simpa [Value.cells] using hd⟩ : DataW.Trod enc Ybad.prog W 0 (fun _ => true) true 44 (.agg cs) d p') bel hltv
    have hv' := trodVars_mk1 (enc := enc) (spare := fun b => decide (b < W.heap.size)) hg ht (var?_below bel hg h2lt hvar) (by simpa [Value.cells] using hd')
    exact ⟨_, _, _, [], _, _, hW', trodAll_mk1 (shut_bool Ybad.underlying4 _),
      (trodAll_cons_mk (Below.trod laidOut (by kernel_rfl) (of_decide_eq_true (by kernel_rfl)) h0 bel lt0) (trodAll_cons_mk (Below.trod laidOut (by kernel_rfl) (of_decide_eq_true (by kernel_rfl)) h1 bel lt1) (trodAll_cons_mk (shut_int Ybad.underlying5 wa) (trodAll_cons_mk (shut_int Ybad.underlying5 wb) trodAll_mk0)))),
      hv', bel.frame _, fun h => by cases h⟩
  by_cases hsh : 1024 < klen ∨ 1024 < len ∨ klen = 0 ∨ len = 0
  · refine (model_short k0 a0 klen kcap len cap a b W hsh).mono fun e W' ⟨he, bel⟩ => ?_
    subst he
    exact ⟨_, rfl, fin W' bel⟩
  · obtain ⟨hsz, h00 | ⟨mb, mo, rfl, hm⟩⟩ := hdb
    · exact absurd (.inr (.inr (.inr h00))) hsh
    · obtain ⟨hksz, h01 | ⟨kb, ko, rfl, hk⟩⟩ := hkdb
      · exact absurd (.inr (.inr (.inl h01))) hsh
      · have T := model_walk kb ko klen kcap mb mo len cap kdb db Ec.ibox (UInt8.ofNat a.toNat) (UInt8.ofNat b.toNat) W hksz hsz (by omega) (by omega) (by omega) (by omega) (block_lt_of_cell (hk 0 (by omega))) (block_lt_of_cell (hm 0 (by omega))) h2lt hk hm hcells
        rw [byte_of wa, byte_of wb] at T
        refine T.mono fun e W' ⟨he, bel⟩ => ?_
        subst he
        exact ⟨_, rfl, fin W' bel⟩

theorem row_holds : Rows.LawS3009CModelSaid :=
  OpenClaim.holds_of_wide 5 Ybad.f5 rfl rfl rfl rfl rfl rfl rfl ⟨rfl, rfl, rfl, rfl, rfl⟩ rfl rfl rfl rfl rfl (by kernel_rfl) Ybad.func5 (by kernel_rfl)
    (of_decide_eq_true (by kernel_rfl)) (by unfold Func.isWrapper; first | (rw [if_pos (by decide +kernel)]; kernel_rfl) | (rw [if_neg (by decide +kernel)]; exact ⟨rfl, rfl⟩))
    (fun os started H enc _ => lifted os started H enc)
#print axioms row_holds
/-- ████ THE STATEMENT ████ -/
theorem proved : Rows.LawS3009CModelCardSaid :=
  Claim7.holds_tied_plain_at .later [] [.data] true (true, "546e6a04a0cbb0fb3b46f9e360253608aec6e15a63058b0c17a6dd4c63cb8b3f") false
    row_holds (fun _ h => by cases h) (by kernel_rfl) (fun _ h => by cases h) lawS3009CModel_row_tie rfl ⟨rfl, rfl⟩ (by kernel_rfl) rfl
    (fun f fn hf hfn => by
      obtain rfl : f = 5 := Option.some.inj ((show Ybad.prog.funcNamed Rows.lawS3009CModelRow.func = some 5 by kernel_rfl).symm.trans hf) |>.symm
      obtain rfl : fn = Ybad.f5 := (Option.some.inj (Ybad.func5.symm.trans hfn)).symm
      exact ⟨by kernel_rfl, fun j t ht => by
        rw [Ybad.params5] at ht
        have hm : t ∈ [27, 27, 5, 5] := by simpa using Array.mem_of_getElem? ht
        have hall : ([27, 27, 5, 5].all fun u => !Ybad.prog.wantsStandIn u) = true := by kernel_rfl
        exact (show Ybad.prog.wantsStandIn t = false by simpa using List.all_eq_true.1 hall t hm)⟩)
    (by kernel_rfl)
#print axioms proved
end Go.Proofs.YbulkbjhgDoor.Model
