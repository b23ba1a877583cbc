/- LawS5418BWhole: the row. -/
import Derived.Test.YbulkdhekBLaw
import Derived.ProofKit
import Derived.OpenShut
import Derived.ShutString
import Derived.ChangeOld
import Derived.Below
import Derived.Deep.Grids
namespace Go.Proofs.Ybulkdhek.lawS5418BWhole
open Go.ChangeShapes Go.WideShapes Go.ChangeAt Go.RowKit Go.Deep
open Go.ChangeMaps (open_string shut_string)
set_option linter.unusedVariables false

theorem own : ownKnob Yba.prog.godebug = none := by kernel_rfl
theorem laidOut : laidOutB Yba.prog = true := by kernel_rfl

set_option maxRecDepth 100000 in
theorem big1 (pa : Option Addr) (pl pc : Nat) (sRaw e fRaw : Int) (ma : Option Addr) (ml mc : Nat) (w : World) (h : 65536 < pl) :
    Calls Yba.prog 3 #[.slice pa pl pc, .int .u64 sRaw, .int .i64 e, .int .u64 fRaw, .slice ma ml mc] w fun e w' => e = .returned (.bool true) ∧ Below w.heap.size w w' := by
  have h' : (65536 : Int) < (pl : Int) := by omega
  go_enter Yba.func3, Yba.ntmps3
  go_wp2
  go_ret
  exact ⟨rfl, Below.refl _ _⟩
set_option maxRecDepth 100000 in
theorem big2 (pa : Option Addr) (pl pc : Nat) (sRaw e fRaw : Int) (ma : Option Addr) (ml mc : Nat) (w : World) (h0 : ¬ 65536 < pl) (h : 65536 < ml) :
    Calls Yba.prog 3 #[.slice pa pl pc, .int .u64 sRaw, .int .i64 e, .int .u64 fRaw, .slice ma ml mc] w fun e w' => e = .returned (.bool true) ∧ Below w.heap.size w w' := by
  have h0' : ¬ (65536 : Int) < (pl : Int) := by omega
  have h' : (65536 : Int) < (ml : Int) := by omega
  go_enter Yba.func3, Yba.ntmps3
  go_wp2
  go_ret
  exact ⟨rfl, Below.refl _ _⟩

theorem lies_of {w : World} {x : Addr} {n : Nat} {F : Nat → Value} (h : ∀ i, i < n → w.cell? (x.add i) = some (F i)) : Lies w (some x) n F := by
  intro j hj
  obtain ⟨b, o, spot⟩ := x
  have h0 := h 0 (by omega)
  have hs : spot = none := by simpa [Addr.add] using World.cell?_spot h0
  subst hs
  refine ⟨b, o, rfl, ?_, fun i hi => by rw [← h i hi, Addr.add_lit]⟩
  exact World.block_lt_of_cell? w _ h0

theorem walk (pa : Option Addr) (pl pc : Nat) (zs : List Int) (sRaw e fRaw : Int) (ma : Option Addr) (ml mc : Nat) (ms : List Bool) (w : World)
    (hs0 : 0 ≤ sRaw) (hf0 : 0 ≤ fRaw) (hzl : zs.length = pl) (hzb : ∀ j, 0 ≤ zs.getD j 0 ∧ zs.getD j 0 ≤ 255) (hz : Lies w pa pl (fun j => .int .u8 (zs.getD j 0))) (hm : Lies w ma ml (fun j => .bool (ms.getD j false))) :
    Calls Yba.prog 3 #[.slice pa pl pc, .int .u64 sRaw, .int .i64 e, .int .u64 fRaw, .slice ma ml mc] w fun e w' => e = .returned (.bool true) ∧ Below w.heap.size w w' := by
  by_cases h1 : 65536 < pl
  · exact big1 pa pl pc sRaw e fRaw ma ml mc w h1
  by_cases h2 : 65536 < ml
  · exact big2 pa pl pc sRaw e fRaw ma ml mc w h1 h2
  exact law_main pa pl pc (if pl = 0 then 1 else pl) zs sRaw e fRaw ma ml mc ms w hs0 hf0 (by omega) (by omega) (by split <;> omega) (by split <;> omega) (fun h => by simp [h]) (fun h => by rw [if_neg (by omega)]) hzl hzb hz hm

set_option maxRecDepth 100000 in
theorem lifted (os : Os) (started : os.Started) (H : Type) (enc : TypeId × Value → H) :
    ReturnsInHanded {} Yba.checked os 3 .any (Rows.lawS5418BWholeSpec.pre6 enc Yba.prog Yba.f3 Rows.lawS5418BWholeRow.domain false) (Rows.lawS5418BWholeSpec.post enc Yba.prog Yba.f3 false true false false) := by
  refine returnsInHanded_of_change (C := Yba.checked) own started (by kernel_rfl) Yba.func3
    (ChangeSpec.witness6 (enc := enc) (C := Yba.checked) false ⟨#[], #[.slice none 0 0, .int .u64 0, .int .i64 0, .int .u64 0, .slice none 0 0], []⟩ 8 (by kernel_rfl) (by kernel_rfl) (by kernel_rfl) (by kernel_rfl)) ?_
  intro W base args ds gs before hval0 hW hcnd _
  have hval : ∀ (j : Nat) t v, Yba.f3.params[j]? = some t → args[j]? = some v → Value.okWide Yba.prog W .any base t v := hval0
  have hW' := hW
  obtain ⟨p, q, hA0, hV, rfl, hfz, hnd⟩ := hW
  have hA : DataW.TrodAll enc Yba.prog W 0 (fun _ => true) true Yba.f3.params.toList args.toList ds p := hA0
  rw [Yba.params3] at hA hval
  obtain ⟨v0, vs0, d0, ds0, p0, q0, hargs, rfl, rfl, h0, r0⟩ := trodAll_cons hA
  obtain ⟨v1, vs1, d1, ds1, p1, q1, rfl, rfl, rfl, h1, r1⟩ := trodAll_cons r0
  obtain ⟨v2, vs2, d2, ds2, p2, q2, rfl, rfl, rfl, h2, r2⟩ := trodAll_cons r1
  obtain ⟨v3, vs3, d3, ds3, p3, q3, rfl, rfl, rfl, h3, r3⟩ := trodAll_cons r2
  obtain ⟨v4, vs4, d4, ds4, p4, q4, rfl, rfl, rfl, h4, r4⟩ := trodAll_cons r3
  obtain ⟨rfl, rfl, rfl⟩ := trodAll_nil r4
  obtain rfl : args = #[v0, v1, v2, v3, v4] := by cases args; simp_all
  obtain ⟨rfl, rfl⟩ := trodVars_none hV
  obtain ⟨a0, len0, cap0, rfl⟩ := okWide_slice Yba.underlying22 (hval 0 22 v0 rfl rfl)
  obtain ⟨a4, len4, cap4, rfl⟩ := okWide_slice Yba.underlying24 (hval 4 24 v4 rfl rfl)
  have k0 := h0
  have k4 := h4
  have lt0 : ∀ x ∈ p0, x.block < W.heap.size := by obtain ⟨m, hm⟩ := k0; exact DataW.trod_lt m _ _ _ hm
  have lt4 : ∀ x ∈ p4, x.block < W.heap.size := by obtain ⟨m, hm⟩ := k4; exact DataW.trod_lt m _ _ _ hm
  obtain ⟨zs, hzl, hzb, hzc⟩ : ∃ zs : List Int, zs.length = len0 ∧ (∀ j, 0 ≤ zs.getD j 0 ∧ zs.getD j 0 ≤ 255) ∧ Lies W a0 len0 (fun j => .int .u8 (zs.getD j 0)) := by
    obtain ⟨fuel, hf⟩ := h0
    rcases open_ints Yba.underlying22 Yba.underlying5 (by kernel_rfl) hf with ⟨hcs, _⟩ | ⟨x, l, c, zs, hcs, _, hl, hm, hz, _, hcell, hwz⟩
    · simp [Value.cells] at hcs
      obtain ⟨rfl, rfl, rfl⟩ := hcs
      exact ⟨[], rfl, fun j => by simp, fun j hj => absurd hj (Nat.not_lt_zero _)⟩
    · simp [Value.cells] at hcs
      obtain ⟨rfl, rfl, rfl⟩ := hcs
      have hz' : zs.length = cap0 := by simpa using hz
      have hget : ∀ j, j < len0 → (zs.take len0).getD j 0 = zs.getD j 0 := fun j hj => by simp [List.getD, hj]
      refine ⟨zs.take len0, by simp; omega, fun j => ?_, ?_⟩
      · by_cases hj : j < len0
        · rw [hget j hj]
          have hmem : zs.getD j 0 ∈ zs := by
            have : j < zs.length := by omega
            simp [List.getD, this]
          have := hwz _ hmem
          have b := bounds_u8 this
          omega
        · have : (zs.take len0).getD j 0 = 0 := by simp [List.getD, List.getElem?_take, hj]
          rw [this]; omega
      · refine lies_of (fun i hi => ?_)
        rw [hcell i (by omega), hget i hi]
  obtain ⟨ms, hmc⟩ : ∃ ms : List Bool, Lies W a4 len4 (fun j => .bool (ms.getD j false)) := by
    obtain ⟨fuel, hf⟩ := h4
    rcases open_bools Yba.underlying24 Yba.underlying4 (by kernel_rfl) hf with ⟨hcs, _⟩ | ⟨x, l, c, B, hcs, _, hl, hm, _, hcell⟩
    · simp [Value.cells] at hcs
      obtain ⟨rfl, rfl, rfl⟩ := hcs
      exact ⟨[], fun j hj => absurd hj (Nat.not_lt_zero _)⟩
    · simp [Value.cells] at hcs
      obtain ⟨rfl, rfl, rfl⟩ := hcs
      refine ⟨(List.range len4).map B, lies_of (fun i hi => ?_)⟩
      rw [hcell i (by omega)]
      simp [List.getD, hi]
  obtain ⟨a1, rfl, rfl, rfl, w1⟩ := open_int Yba.underlying23 (hval 1 23 v1 rfl rfl) h1
  obtain ⟨a2, rfl, rfl, rfl, w2⟩ := open_int Yba.underlying3 (hval 2 3 v2 rfl rfl) h2
  obtain ⟨a3, rfl, rfl, rfl, w3⟩ := open_int Yba.underlying23 (hval 3 23 v3 rfl rfl) h3
  clear hA0 hval0
  have b1 := bounds_u64 w1
  have b3 := bounds_u64 w3
  refine (walk a0 len0 cap0 zs a1 a2 a3 a4 len4 cap4 ms W (by omega) (by omega) hzl hzb hzc hmc).mono fun e W' ⟨he, bel⟩ => ?_
  subst he
  exact ⟨_, rfl, _, _, _, [], _, [], hW', trodAll_mk1 (shut_bool Yba.underlying4 _), (trodAll_cons_mk (Below.trod laidOut (by kernel_rfl) (of_decide_eq_true (by kernel_rfl)) k0 bel lt0) (trodAll_cons_mk (shut_int Yba.underlying23 w1) (trodAll_cons_mk (shut_int Yba.underlying3 w2) (trodAll_cons_mk (shut_int Yba.underlying23 w3) (trodAll_cons_mk (Below.trod laidOut (by kernel_rfl) (of_decide_eq_true (by kernel_rfl)) k4 bel lt4) trodAll_mk0))))), rfl, bel.frame _, fun h => by cases h⟩

theorem over : Rows.lawS5418BWholeRow.holds Yba.pinned (OpenSpec.ofChange Rows.lawS5418BWholeSpec) :=
  OpenClaim.holds_of_wide 3 Yba.f3 rfl rfl rfl rfl rfl rfl rfl ⟨rfl, rfl, rfl, rfl, rfl⟩ rfl rfl rfl rfl rfl (by kernel_rfl) Yba.func3 (by kernel_rfl)
    (of_decide_eq_true (by kernel_rfl)) (by unfold Func.isWrapper; first | (rw [if_pos (by decide +kernel)]; kernel_rfl) | (rw [if_neg (by decide +kernel)]; exact ⟨rfl, rfl⟩))
    (fun os started H enc _ => lifted os started H enc)

theorem proved : Rows.LawS5418BWholeSaid := over
end Go.Proofs.Ybulkdhek.lawS5418BWhole
