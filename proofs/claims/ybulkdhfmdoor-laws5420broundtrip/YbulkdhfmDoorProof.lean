/- LawS5420BRoundTrip: the row and the card. -/
import Derived.Test.YbulkdhfmDoorWalk
import Derived.Test.YbulkdhfmDoorTie
import Derived.Test.YbulkdhfmDoorCards
import Derived.ProofKit
import Derived.LaidMore
import Derived.OpenShut
import Derived.OpenVars
import Derived.Lib.LaidTab
import Derived.Stop.Joined
import Derived.Stop.LaidErr
import Derived.SevenTiedAt
import Derived.Below
import Derived.ChangeOld
namespace Go.Proofs.YbulkdhfmDoor.lawS5420BRoundTrip
open Go.ChangeShapes Go.WideShapes Go.ChangeAt Go.WideMaps Go.WideElems Go.RowKit
set_option linter.unusedVariables false

theorem own : ownKnob Ybad.prog.godebug = none := by kernel_rfl
theorem laidOut : laidOutB Ybad.prog = true := by kernel_rfl

/-- An array of strings that reads as these texts holds them, cell for cell. -/
theorem cells_of_strs {H : Type} {enc : TypeId × Value → H} {P : Program} {w : World} {base : Nat} {sp : Nat → Bool} {held : Bool} {fuel : Nat} {t e : TypeId} {n : Nat} {cs : List Value} {ss : List ByteArray} {p : List MemPlace}
    (ht : P.underlying t = some (.array n e)) (he : P.underlying e = some .string) (hce : P.cellsOf e = 1) (hct : P.cellsOf t = n)
    (h : DataW.trod enc P w base sp held fuel t cs = some (.agg (ss.map fun s => .lit (.string s.data.toList)), p)) : cs = ss.map fun s => Value.string s := by
  cases fuel with
  | zero => simp [DataW.trod] at h
  | succ fuel =>
    simp only [DataW.trod, ht, hce, hct, Nat.mul_one] at h
    split at h
    · rename_i hl
      obtain ⟨xs, hm, hx⟩ := Option.map_eq_some_iff.1 h
      have hxs : xs.map (·.1) = ss.map fun s => (DataW.lit (.string s.data.toList) : DataW H) := by
        have := congrArg Prod.fst hx
        simpa using this
      have hxl : xs.length = n := by simpa using Lib.mapM_length hm
      have hzl : ss.length = n := by
        have := congrArg List.length hxs
        simp at this
        omega
      apply List.ext_getElem?
      intro i
      by_cases hi : i < n
      · obtain ⟨b, hb, hf⟩ := Lib.mapM_at hm i i (by simp [hi])
        obtain ⟨z, hc, rfl, _⟩ := DataW.trod_string he hf
        have h1 : cs[i]? = some (.string z) := by
          have := congrArg (·[0]?) hc
          simpa [List.getElem?_take, List.getElem?_drop] using this
        have h2 : (xs.map (·.1))[i]? = some (DataW.lit (.string z.data.toList) : DataW H) := by simp [hb]
        rw [hxs] at h2
        simp only [List.getElem?_map, Option.map_eq_some_iff, DataW.lit.injEq, Lit.string.injEq] at h2
        obtain ⟨z', hz', e'⟩ := h2
        have : z' = z := by
          cases z; cases z'; simp at e'; simp [e']
        subst this
        simp [h1, hz']
      · rw [List.getElem?_eq_none (by omega), List.getElem?_eq_none (by simp; omega)]
    · cases h

theorem gN : Ybad.prog.globalNamed "example.com/calm-valve/calm-valve.priorityNames" = some 0 := by kernel_rfl
theorem tN : (Ybad.prog.globals[0]?).map (·.type) = some 65 := by kernel_rfl

/-- WHAT THE CONDITION GIVES THE WALKS. -/
theorem of_laid {W : World} (h : laidMetH Ybad.prog Rows.lawS5420BRoundTripRow.laid W) : (∃ tt fr, W.heap[0]? = some (.cells nmv tt fr)) ∧ Lib.TabIs Ybad.prog W "internal/strconv.uint64pow10" .u64 Lib.pow10Tab := by
  rw [MakeChecks.laidMetH_plain _ _ _ (by kernel_rfl)] at h
  have h3 := h.tail.tail
  have h4 := h3.tail
  refine ⟨?_, Lib.tabIs_of_head (rest := [("example.com/calm-valve/calm-valve.priorityNames", Rows.laid_example_com_calm_valve_calm_valve_priorityNames)]) (g := 4) (t := 117) (e := 31) (n := 20) (by kernel_rfl) (by kernel_rfl) (by kernel_rfl) (by kernel_rfl) (by kernel_rfl) (by kernel_rfl) h3⟩
  obtain ⟨ps, ⟨g, t, cs, fuel, p, q, hg, ht, hvar, hd, _, _⟩, _⟩ := h4
  obtain rfl := Option.some.inj (gN.symm.trans hg)
  obtain rfl := Option.some.inj (tN.symm.trans ht)
  have hcs := cells_of_strs (ss := [nm 0, nm 1, nm 2, nm 3, nm 4]) Ybad.underlying65 Ybad.underlying9 (by kernel_rfl) (by kernel_rfl) hd
  obtain rfl : cs = nmv := by cases cs; simp [nmv]; simpa using hcs
  simp only [World.var?, hg, Option.bind_some] at hvar
  split at hvar
  · rename_i c t fr hb
    cases hvar
    exact ⟨_, _, hb⟩
  · cases hvar

/-- The door's own heap meets the condition. -/
theorem door_met (os : Os) (args : Array Value) : laidMetH Ybad.prog Rows.lawS5420BRoundTripRow.laid ((World.doorLaid Ybad.prog 29 os).forCall (fun _ _ => 0) ⟨#[], args, []⟩).memory :=
  laidMetH_of_parts3 (fuel := 8) (laidMet_of_run' 8 (by kernel_rfl) (by kernel_rfl)) (by kernel_rfl) (by kernel_rfl)

theorem below_of_grew {w w' : World} (h : Grew w w') : Below w.heap.size w w' := by
  obtain ⟨k, os, rfl⟩ := h
  refine ⟨rfl, rfl, rfl, by simp [Sort.grow], fun b hb => ?_⟩
  simp [Sort.grow, Array.getElem?_append, hb]

set_option maxRecDepth 100000 in
theorem lifted (os : Os) (started : os.Started) (H : Type) (enc : TypeId × Value → H) :
    ReturnsInHanded {} Ybad.checked os 4 .any (fun w args => (Rows.lawS5420BRoundTripSpec.pre enc Ybad.prog Ybad.f4 [] false w args ∧ laidMetH Ybad.prog Rows.lawS5420BRoundTripRow.laid w) ∧ sizedMet enc Ybad.prog Ybad.f4 (OpenSpec.ofChange Rows.lawS5420BRoundTripSpec) false w args)
      (Rows.lawS5420BRoundTripSpec.post enc Ybad.prog Ybad.f4 false true false false) := by
  refine returnsInHanded_of_change_and (C := Ybad.checked) (X := fun w _ => laidMetH Ybad.prog Rows.lawS5420BRoundTripRow.laid w) (fun _ _ _ hh h => h.of_heap hh) own started (by kernel_rfl) Ybad.func4
    (ChangeSpec.witness_shaped (enc := enc) (C := Ybad.checked) (os := os) (X := fun w _ => laidMetH Ybad.prog Rows.lawS5420BRoundTripRow.laid w) false (World.doorLaid Ybad.prog 29 os) #[.int .i64 0] 8 rfl (World.shaped_of_RefB (by kernel_rfl) (by kernel_rfl)) (by kernel_rfl) (by kernel_rfl) (by kernel_rfl) (door_met os _)) ?_
  intro W base args ds gs before hval0 hW _ _ hL _
  have hval : ∀ (j : Nat) t v, Ybad.f4.params[j]? = some t → args[j]? = some v → Value.okWide Ybad.prog W .any base t v := hval0
  have hW' := hW
  obtain ⟨p, q, hA0, hV, rfl, hfz, hnd⟩ := hW
  have hA : DataW.TrodAll enc Ybad.prog W 0 (fun _ => true) true Ybad.f4.params.toList args.toList ds p := hA0
  rw [Ybad.params4] at hA hval
  obtain ⟨v0, d0, rfl, rfl, h0⟩ := trodAll_one hA
  obtain ⟨g, t, cs, fuel, d, pp, rfl, _, _, _, _, _⟩ := trodVars_one hV
  obtain ⟨n, rfl, rfl, rfl, wn⟩ := open_int Ybad.underlying3 (hval 0 3 v0 rfl rfl) h0
  obtain ⟨⟨tt, fr, hg⟩, htab⟩ := of_laid hL
  clear hA0 hval0
  have bn := bounds_i64 wn
  refine (law n (by omega) (by omega) W tt fr hg htab).mono fun e W' ⟨he, hG⟩ => ?_
  subst he
  have bel := below_of_grew hG
  have hvars := Below.trodVars laidOut bel (by kernel_rfl) hV
  exact ⟨_, rfl, _, _, _, [], _, _, hW', trodAll_mk1 (shut_bool Ybad.underlying4 _), trodAll_mk1 (shut_int Ybad.underlying3 wn), hvars, bel.frame _, fun h => by cases h⟩

theorem over : Rows.LawS5420BRoundTripSaid :=
  OpenClaim.holds_of_wide 4 Ybad.f4 rfl rfl rfl rfl rfl rfl rfl ⟨rfl, rfl, rfl, rfl, rfl⟩ rfl rfl rfl rfl rfl (by kernel_rfl) Ybad.func4 (by kernel_rfl)
    (of_decide_eq_true (by kernel_rfl)) (by unfold Func.isWrapper; first | (rw [if_pos (by decide +kernel)]; kernel_rfl) | (rw [if_neg (by decide +kernel)]; exact ⟨rfl, rfl⟩))
    (fun os started H enc _ => lifted os started H enc)

theorem proved : Rows.LawS5420BRoundTripCardSaid :=
  Claim7.holds_tied_plain_at .later [] [.data, .data, .data, .data] true (true, "14cc9f7229b250785b55e1ce129c685f858b58331983fad8da85a5334461bf6f") true
    over (fun _ h => by cases h) (by kernel_rfl) (fun _ h => by cases h) lawS5420BRoundTrip_row_tie rfl ⟨rfl, rfl⟩ (by kernel_rfl) rfl
    (fun f fn hf hfn => by
      obtain rfl : f = 4 := Option.some.inj ((show Ybad.prog.funcNamed "example.com/calm-valve/calm-valve.LawS5420BRoundTrip" = some 4 by kernel_rfl).symm.trans hf) |>.symm
      obtain rfl : fn = Ybad.f4 := (Option.some.inj (Ybad.func4.symm.trans hfn)).symm
      exact ⟨by kernel_rfl, fun j t ht => by
        rw [Ybad.params4] at ht
        have hm : t ∈ [3] := by simpa using Array.mem_of_getElem? ht
        have hall : ([3].all fun u => !Ybad.prog.wantsStandIn u) = true := by kernel_rfl
        exact (show Ybad.prog.wantsStandIn t = false by simpa using List.all_eq_true.1 hall t hm)⟩)
    (by kernel_rfl)
end Go.Proofs.YbulkdhfmDoor.lawS5420BRoundTrip
