/- LawS5422CWhole: the row and the card. -/
import Derived.Test.YbulkdhgoDoorWalk
import Derived.Test.YbulkdhgoDoorTie
import Derived.Test.YbulkdhgoDoorCards
import Derived.ProofKit
import Derived.LaidMore
import Derived.OpenShut
import Derived.Stop.Joined
import Derived.Stop.LaidErr
import Derived.Stop.LaidTwo
import Derived.SevenTiedAt
import Derived.Below
import Derived.ChangeOld
namespace Go.Proofs.YbulkdhgoDoor.lawS5422CWhole
open Go.ChangeShapes Go.WideShapes Go.ChangeAt Go.WideMaps Go.WideElems Go.RowKit
set_option linter.unusedVariables false

theorem own : ownKnob Ybad.prog.godebug = none := by kernel_rfl
theorem laidOut : laidOutB Ybad.prog = true := by kernel_rfl
theorem row50 (u : TypeId) (h : Ybad.prog.typeName? 3 u = some "*errors.errorString") : u = 50 :=
  typeName_ptr_named (nm := "errors.errorString") (by kernel_rfl) (by kernel_rfl) (by decide) u (by rw [h]; decide)

/-- WHAT THE CONDITION GIVES THE WALK. -/
theorem of_laid {W : World} (h : laidMetH Ybad.prog Rows.lawS5422CWholeRow.laid W) : ∃ a1 a2, W.cell? ⟨1, 0, none⟩ = some (.iface 50 (.pointer (some a1))) ∧ W.cell? ⟨2, 0, none⟩ = some (.iface 50 (.pointer (some a2))) := by
  rw [MakeChecks.laidMetH_plain _ _ _ (by kernel_rfl)] at h
  obtain ⟨a0, a1, s0, s1, c0, c1, t0, t1, hv0, hv1, hc0, hs0, hz0, hc1, hs1, hz1, hne, hb0, hb1⟩ := laid_sentinels2 (g0 := 1) (g1 := 2) h (by kernel_rfl) (by kernel_rfl) (by kernel_rfl) (by kernel_rfl) Ybad.underlying25 row50 Ybad.underlying50 Ybad.underlying52 rfl rfl Ybad.underlying9 (by kernel_rfl) (by kernel_rfl)
  exact ⟨a0, a1, by simpa using World.var?_cell (by kernel_rfl) hv0 0, by simpa using World.var?_cell (by kernel_rfl) hv1 0⟩

/-- The door's own heap meets the condition. -/
theorem door_met (os : Os) (args : Array Value) : laidMetH Ybad.prog Rows.lawS5422CWholeRow.laid ((World.doorLaid Ybad.prog 66 os).forCall (fun _ _ => 0) ⟨#[], args, []⟩).memory :=
  laidMetH_of_parts3 (fuel := 8) (laidMet_of_run' 8 (by kernel_rfl) (by kernel_rfl)) (by kernel_rfl) (by kernel_rfl)

set_option maxRecDepth 100000 in
theorem lifted (os : Os) (started : os.Started) (H : Type) (enc : TypeId × Value → H) :
    ReturnsInHanded {} Ybad.checked os 3 .any (fun w args => (Rows.lawS5422CWholeSpec.pre enc Ybad.prog Ybad.f3 [] false w args ∧ laidMetH Ybad.prog Rows.lawS5422CWholeRow.laid w) ∧ sizedMet enc Ybad.prog Ybad.f3 (OpenSpec.ofChange Rows.lawS5422CWholeSpec) false w args)
      (Rows.lawS5422CWholeSpec.post enc Ybad.prog Ybad.f3 false true false false) := by
  refine returnsInHanded_of_change_and (C := Ybad.checked) (X := fun w _ => laidMetH Ybad.prog Rows.lawS5422CWholeRow.laid w) (fun _ _ _ hh h => h.of_heap hh) own started (by kernel_rfl) Ybad.func3
    (ChangeSpec.witness_shaped (enc := enc) (C := Ybad.checked) (os := os) (X := fun w _ => laidMetH Ybad.prog Rows.lawS5422CWholeRow.laid w) false (World.doorLaid Ybad.prog 66 os) #[.int .u8 0] 8 rfl (World.shaped_of_RefB (by kernel_rfl) (by kernel_rfl)) (by kernel_rfl) (by kernel_rfl) (by kernel_rfl) (door_met os _)) ?_
  intro W base args ds gs before hval0 hW _ _ hL _
  have hval : ∀ (j : Nat) t v, Ybad.f3.params[j]? = some t → args[j]? = some v → Value.okWide Ybad.prog W .any base t v := hval0
  have hW' := hW
  obtain ⟨p, q, hA0, hV, rfl, hfz, hnd⟩ := hW
  have hA : DataW.TrodAll enc Ybad.prog W 0 (fun _ => true) true Ybad.f3.params.toList args.toList ds p := hA0
  rw [Ybad.params3] at hA hval
  obtain ⟨v0, d0, rfl, rfl, h0⟩ := trodAll_one hA
  obtain ⟨rfl, rfl⟩ := trodVars_none hV
  obtain ⟨n, rfl, rfl, rfl, wn⟩ := open_int Ybad.underlying5 (hval 0 5 v0 rfl rfl) h0
  obtain ⟨a1, a2, h1, h2⟩ := of_laid hL
  clear hA0 hval0
  have bn := bounds_u8 wn
  obtain ⟨m, hm⟩ := Int.eq_ofNat_of_zero_le (show 0 ≤ n by omega)
  subst hm
  refine (whole m W a1 a2 h1 h2).mono fun e W' ⟨he, bel⟩ => ?_
  subst he
  exact ⟨_, rfl, _, _, _, [], _, [], hW', trodAll_mk1 (shut_bool Ybad.underlying4 _), trodAll_mk1 (shut_int Ybad.underlying5 wn), rfl, bel.frame _, fun h => by cases h⟩

theorem over : Rows.LawS5422CWholeSaid :=
  OpenClaim.holds_of_wide 3 Ybad.f3 rfl rfl rfl rfl rfl rfl rfl ⟨rfl, rfl, rfl, rfl, rfl⟩ rfl rfl rfl rfl rfl (by kernel_rfl) Ybad.func3 (by kernel_rfl)
    (of_decide_eq_true (by kernel_rfl)) (by unfold Func.isWrapper; first | (rw [if_pos (by decide +kernel)]; kernel_rfl) | (rw [if_neg (by decide +kernel)]; exact ⟨rfl, rfl⟩))
    (fun os started H enc _ => lifted os started H enc)

theorem proved : Rows.LawS5422CWholeCardSaid :=
  Claim7.holds_tied_plain_at .later [] [.sentinel, .sentinel] true (true, "d494c018150c8de974f8bea9b3c59b2d6b91bc7ab588a5fc62fd85222c0b2153") true
    over (fun _ h => by cases h) (by kernel_rfl) (fun _ h => by cases h) lawS5422CWhole_row_tie rfl ⟨rfl, rfl⟩ (by kernel_rfl) rfl
    (fun f fn hf hfn => by
      obtain rfl : f = 3 := Option.some.inj ((show Ybad.prog.funcNamed "example.com/packsight/packsight/pack.LawS5422CWhole" = some 3 by kernel_rfl).symm.trans hf) |>.symm
      obtain rfl : fn = Ybad.f3 := (Option.some.inj (Ybad.func3.symm.trans hfn)).symm
      exact ⟨by kernel_rfl, fun j t ht => by
        rw [Ybad.params3] at ht
        have hm : t ∈ [5] := by simpa using Array.mem_of_getElem? ht
        have hall : ([5].all fun u => !Ybad.prog.wantsStandIn u) = true := by kernel_rfl
        exact (show Ybad.prog.wantsStandIn t = false by simpa using List.all_eq_true.1 hall t hm)⟩)
    (by kernel_rfl)
end Go.Proofs.YbulkdhgoDoor.lawS5422CWhole
