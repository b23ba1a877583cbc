/- LawS5418CWhole: the row. -/
import Derived.Test.YbulkdhekCLaw
import Derived.ProofKit
import Derived.OpenShut
import Derived.ShutString
import Derived.ChangeOld
import Derived.Below
import Derived.Deep.Grids
namespace Go.Proofs.Ybulkdhek.lawS5418CWhole
open Go.ChangeShapes Go.WideShapes Go.ChangeAt Go.RowKit Go.Deep
open Go.ChangeMaps (open_string shut_string)
set_option linter.unusedVariables false

theorem own : ownKnob Yba.prog.godebug = none := by kernel_rfl
theorem laidOut : laidOutB Yba.prog = true := by kernel_rfl

set_option maxRecDepth 100000 in
theorem low (hRaw lo : Int) (ca : Option Addr) (cl cc : Nat) (ta : Option Addr) (tl tc : Nat) (u : Bool) (w : World) (h : lo < -65536) :
    Calls Yba.prog 4 #[.int .u16 hRaw, .int .i64 lo, .slice ca cl cc, .slice ta tl tc, .bool u] w fun e w' => e = .returned (.bool true) ∧ Below w.heap.size w w' := by
  go_enter Yba.func4, Yba.ntmps4
  go_wp2
  go_ret
  exact ⟨rfl, ((Below.refl _ _).alloc (Nat.le_refl _) _).alloc (by simp) _⟩

theorem lies_of {w : World} {x : Addr} {n : Nat} {F : Nat → Value} (h : ∀ i, i < n → w.cell? (x.add i) = some (F i)) : LiesC w (some x) n F := by
  intro j hj
  obtain ⟨b, o, spot⟩ := x
  have h0 := h 0 (by omega)
  have hs : spot = none := by simpa [Addr.add] using World.cell?_spot h0
  subst hs
  refine ⟨b, o, rfl, ?_, fun i hi => by rw [← h i hi, Addr.add_lit]⟩
  exact World.block_lt_of_cell? w _ h0

theorem walk (hRaw lo : Int) (ca : Option Addr) (cl cc : Nat) (cs : List Int) (ta : Option Addr) (tl tc : Nat) (ts : List Bool) (u : Bool) (w : World) (hR0 : 0 ≤ hRaw) (hR1 : hRaw ≤ 65535)
    (hlo2 : lo ≤ 9223372036854775807) (hcl : cl ≤ 9223372036854775807) (htl : tl ≤ 9223372036854775807) (hcs : cs.length = cl) (hts : ts.length = tl) (hC : LiesC w ca cl (fun j => .int .i64 (cs.getD j 0))) (hT : LiesC w ta tl (fun j => .bool (ts.getD j false))) :
    Calls Yba.prog 4 #[.int .u16 hRaw, .int .i64 lo, .slice ca cl cc, .slice ta tl tc, .bool u] w fun e w' => e = .returned (.bool true) ∧ Below w.heap.size w w' := by
  by_cases h1 : lo < -65536
  · exact low hRaw lo ca cl cc ta tl tc u w h1
  · exact lawC_main hRaw lo ca cl cc cs ta tl tc ts u w (hRaw % 300).toNat (by omega) hR0 hR1 (by omega) (by omega) hlo2 hcl htl hcs hts hC hT (((hRaw % 300).toNat : Int) - lo).toNat (by omega) (by omega)

set_option maxRecDepth 100000 in
theorem lifted (os : Os) (started : os.Started) (H : Type) (enc : TypeId × Value → H) :
    ReturnsInHanded {} Yba.checked os 4 .any (Rows.lawS5418CWholeSpec.pre6 enc Yba.prog Yba.f4 Rows.lawS5418CWholeRow.domain false) (Rows.lawS5418CWholeSpec.post enc Yba.prog Yba.f4 false true false false) := by
  refine returnsInHanded_of_change (C := Yba.checked) own started (by kernel_rfl) Yba.func4
    (ChangeSpec.witness6 (enc := enc) (C := Yba.checked) false ⟨#[], #[.int .u16 0, .int .i64 0, .slice none 0 0, .slice none 0 0, .bool false], []⟩ 8 (by kernel_rfl) (by kernel_rfl) (by kernel_rfl) (by kernel_rfl)) ?_
  intro W base args ds gs before hval0 hW hcnd _
  have hval : ∀ (j : Nat) t v, Yba.f4.params[j]? = some t → args[j]? = some v → Value.okWide Yba.prog W .any base t v := hval0
  have hW' := hW
  obtain ⟨p, q, hA0, hV, rfl, hfz, hnd⟩ := hW
  have hA : DataW.TrodAll enc Yba.prog W 0 (fun _ => true) true Yba.f4.params.toList args.toList ds p := hA0
  rw [Yba.params4] at hA hval
  obtain ⟨v0, vs0, d0, ds0, p0, q0, hargs, rfl, rfl, h0, r0⟩ := trodAll_cons hA
  obtain ⟨v1, vs1, d1, ds1, p1, q1, rfl, rfl, rfl, h1, r1⟩ := trodAll_cons r0
  obtain ⟨v2, vs2, d2, ds2, p2, q2, rfl, rfl, rfl, h2, r2⟩ := trodAll_cons r1
  obtain ⟨v3, vs3, d3, ds3, p3, q3, rfl, rfl, rfl, h3, r3⟩ := trodAll_cons r2
  obtain ⟨v4, vs4, d4, ds4, p4, q4, rfl, rfl, rfl, h4, r4⟩ := trodAll_cons r3
  obtain ⟨rfl, rfl, rfl⟩ := trodAll_nil r4
  obtain rfl : args = #[v0, v1, v2, v3, v4] := by cases args; simp_all
  obtain ⟨rfl, rfl⟩ := trodVars_none hV
  obtain ⟨a2, len2, cap2, rfl⟩ := okWide_slice Yba.underlying51 (hval 2 51 v2 rfl rfl)
  obtain ⟨a3, len3, cap3, rfl⟩ := okWide_slice Yba.underlying24 (hval 3 24 v3 rfl rfl)
  have k2 := h2
  have k3 := h3
  have lt2 : ∀ x ∈ p2, x.block < W.heap.size := by obtain ⟨m, hm⟩ := k2; exact DataW.trod_lt m _ _ _ hm
  have lt3 : ∀ x ∈ p3, x.block < W.heap.size := by obtain ⟨m, hm⟩ := k3; exact DataW.trod_lt m _ _ _ hm
  obtain ⟨cs, hcs, hcl, hcc⟩ : ∃ cs : List Int, cs.length = len2 ∧ len2 ≤ 9223372036854775807 ∧ LiesC W a2 len2 (fun j => .int .i64 (cs.getD j 0)) := by
    obtain ⟨fuel, hf⟩ := h2
    rcases open_ints Yba.underlying51 Yba.underlying2 (by kernel_rfl) hf with ⟨hcs, _⟩ | ⟨x, l, c, zs, hcs, _, hl, hm, hz, _, hcell, hwz⟩
    · simp [Value.cells] at hcs
      obtain ⟨rfl, rfl, rfl⟩ := hcs
      exact ⟨[], rfl, by omega, fun j hj => absurd hj (Nat.not_lt_zero _)⟩
    · simp [Value.cells] at hcs
      obtain ⟨rfl, rfl, rfl⟩ := hcs
      have hz' : zs.length = cap2 := by simpa using hz
      have hget : ∀ j, j < len2 → (zs.take len2).getD j 0 = zs.getD j 0 := fun j hj => by simp [List.getD, hj]
      refine ⟨zs.take len2, by simp; omega, by unfold maxLen at hm; omega, lies_of (fun i hi => ?_)⟩
      rw [hcell i (by omega), hget i hi]
  obtain ⟨ms, hms, hml, hmc⟩ : ∃ ms : List Bool, ms.length = len3 ∧ len3 ≤ 9223372036854775807 ∧ LiesC W a3 len3 (fun j => .bool (ms.getD j false)) := by
    obtain ⟨fuel, hf⟩ := h3
    rcases open_bools Yba.underlying24 Yba.underlying4 (by kernel_rfl) hf with ⟨hcs, _⟩ | ⟨x, l, c, B, hcs, _, hl, hm, _, hcell⟩
    · simp [Value.cells] at hcs
      obtain ⟨rfl, rfl, rfl⟩ := hcs
      exact ⟨[], rfl, by omega, fun j hj => absurd hj (Nat.not_lt_zero _)⟩
    · simp [Value.cells] at hcs
      obtain ⟨rfl, rfl, rfl⟩ := hcs
      refine ⟨(List.range len3).map B, by simp, by unfold maxLen at hm; omega, lies_of (fun i hi => ?_)⟩
      rw [hcell i (by omega)]
      simp [List.getD, hi]
  obtain ⟨a0, rfl, rfl, rfl, w0⟩ := open_int Yba.underlying50 (hval 0 50 v0 rfl rfl) h0
  obtain ⟨a1, rfl, rfl, rfl, w1⟩ := open_int Yba.underlying3 (hval 1 3 v1 rfl rfl) h1
  obtain ⟨a4, rfl, rfl, rfl⟩ := open_bool Yba.underlying4 (hval 4 4 v4 rfl rfl) h4
  clear hA0 hval0
  have b0 := bounds_u16 w0
  have b1 := bounds_i64 w1
  refine (walk a0 a1 a2 len2 cap2 cs a3 len3 cap3 ms a4 W (by omega) (by omega) (by omega) hcl hml hcs hms hcc hmc).mono fun e W' ⟨he, bel⟩ => ?_
  subst he
  exact ⟨_, rfl, _, _, _, [], _, [], hW', trodAll_mk1 (shut_bool Yba.underlying4 _), (trodAll_cons_mk (shut_int Yba.underlying50 w0) (trodAll_cons_mk (shut_int Yba.underlying3 w1) (trodAll_cons_mk (Below.trod laidOut (by kernel_rfl) (of_decide_eq_true (by kernel_rfl)) k2 bel lt2) (trodAll_cons_mk (Below.trod laidOut (by kernel_rfl) (of_decide_eq_true (by kernel_rfl)) k3 bel lt3) (trodAll_cons_mk (shut_bool Yba.underlying4 _) trodAll_mk0))))), rfl, bel.frame _, fun h => by cases h⟩

theorem over : Rows.lawS5418CWholeRow.holds Yba.pinned (OpenSpec.ofChange Rows.lawS5418CWholeSpec) :=
  OpenClaim.holds_of_wide 4 Yba.f4 rfl rfl rfl rfl rfl rfl rfl ⟨rfl, rfl, rfl, rfl, rfl⟩ rfl rfl rfl rfl rfl (by kernel_rfl) Yba.func4 (by kernel_rfl)
    (of_decide_eq_true (by kernel_rfl)) (by unfold Func.isWrapper; first | (rw [if_pos (by decide +kernel)]; kernel_rfl) | (rw [if_neg (by decide +kernel)]; exact ⟨rfl, rfl⟩))
    (fun os started H enc _ => lifted os started H enc)

theorem proved : Rows.LawS5418CWholeSaid := over
end Go.Proofs.Ybulkdhek.lawS5418CWhole
