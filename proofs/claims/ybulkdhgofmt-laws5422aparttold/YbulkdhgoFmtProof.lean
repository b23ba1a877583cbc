/- LawS5422APart: the row and the card. -/
import Derived.Test.YbulkdhgoFmtWalk
import Derived.Test.YbulkdhgoFmtTie
import Derived.Test.YbulkdhgoFmtCards
import Derived.ProofKit
import Derived.ChangeSlices
import Derived.ChangeSame
import Derived.JoinedOf
import Derived.Carry
import Derived.LaidMore
import Derived.OpenShut
import Derived.OpenVars
import Derived.ChangeOld
import Derived.Below
import Derived.Deep.Grids
import Derived.Deep.DeepWitnessRef
import Derived.Stop.Joined
import Derived.Stop.JoinedTold
import Derived.SevenTiedAt
import Derived.SevenToldRow
namespace Go.Proofs.YbulkdhgoFmt.lawS5422APart
open Go.ChangeShapes Go.WideShapes Go.ChangeAt Go.RowKit Go.Deep
set_option linter.unusedVariables false

theorem own : ownKnob Ybaf.prog.godebug = none := by kernel_rfl
theorem laidOut : laidOutB Ybaf.pinned.checked.prog = true := by kernel_rfl
theorem laidOut' : laidOutB Ybaf.prog = true := by kernel_rfl
theorem stops : Ybaf.pinned.checked.prog.stops = ["fmt.errorf"] := by kernel_rfl
theorem stopKnobs : Ybaf.pinned.checked.prog.stopKnobs = [] := by kernel_rfl
theorem quiet (os : Os) : Stop.quiet Ybaf.pinned.checked.prog os := by
  intro k hk
  rw [stopKnobs] at hk
  cases hk

set_option maxRecDepth 100000 in
theorem big1 (pa : Option Addr) (pl pc : Nat) (f n : Int) (ma : Option Addr) (ml mc : Nat) (a b : Int) (w : World) (h : 1048576 < pl) :
    Calls Ybaf.prog 3 #[.slice pa pl pc, .int .u64 f, .int .u64 n, .slice ma ml mc, .int .u64 a, .int .u64 b] w fun e w' => e = .returned (.bool true) ∧ Below w.heap.size w w' := by
  have h' : (1048576 : Int) < (pl : Int) := by omega
  go_enter Ybaf.func3, Ybaf.ntmps3
  go_wp2
  go_ret
  exact ⟨rfl, Below.refl _ _⟩
set_option maxRecDepth 100000 in
theorem big2 (pa : Option Addr) (pl pc : Nat) (f n : Int) (ma : Option Addr) (ml mc : Nat) (a b : Int) (w : World) (h0 : ¬ 1048576 < pl) (h : 1048576 < ml) :
    Calls Ybaf.prog 3 #[.slice pa pl pc, .int .u64 f, .int .u64 n, .slice ma ml mc, .int .u64 a, .int .u64 b] w fun e w' => e = .returned (.bool true) ∧ Below w.heap.size w w' := by
  have h0' : ¬ (1048576 : Int) < (pl : Int) := by omega
  have h' : (1048576 : Int) < (ml : Int) := by omega
  go_enter Ybaf.func3, Ybaf.ntmps3
  go_wp2
  go_ret
  exact ⟨rfl, Below.refl _ _⟩

theorem lies_of {w : World} {x : Addr} {n : Nat} {F : Nat → Value} (h : ∀ i, i < n → w.cell? (x.add i) = some (F i)) : Lies w (some x) n F := by
  intro j hj
  obtain ⟨b, o, spot⟩ := x
  have h0 := h 0 (by omega)
  have hs : spot = none := by simpa [Addr.add] using World.cell?_spot h0
  subst hs
  refine ⟨b, o, rfl, ?_, fun i hi => by rw [← h i hi, Addr.add_lit]⟩
  exact World.block_lt_of_cell? w _ h0

theorem walk (pa : Option Addr) (pl pc : Nat) (zs : List Int) (f n : Int) (ma : Option Addr) (ml mc : Nat) (ms : List Int) (a b : Int) (w : World)
    (hf : 0 ≤ f) (hn : 0 ≤ n) (hzl : zs.length = pl) (hml : ms.length = ml) (hz : Lies w pa pl (fun j => .int .u8 (zs.getD j 0))) (hm : Lies w ma ml (fun j => .int .u8 (ms.getD j 0))) (hs0 : ma = none → ml = 0 ∧ mc = 0) :
    Calls Ybaf.prog 3 #[.slice pa pl pc, .int .u64 f, .int .u64 n, .slice ma ml mc, .int .u64 a, .int .u64 b] w fun e w' => e = .returned (.bool true) ∧ Below w.heap.size w w' := by
  by_cases h1 : 1048576 < pl
  · exact big1 pa pl pc f n ma ml mc a b w h1
  by_cases h2 : 1048576 < ml
  · exact big2 pa pl pc f n ma ml mc a b w h1 h2
  obtain ⟨f', rfl⟩ := Int.eq_ofNat_of_zero_le hf
  obtain ⟨n', rfl⟩ := Int.eq_ofNat_of_zero_le hn
  exact law_main pa pl pc zs f' n' ma ml mc ms a b w (by omega) (by omega) hzl hml hz hm hs0

/-- A slice of bytes that came in. -/
theorem open_bytes {H : Type} {enc : TypeId × Value → H} {W : World} {a0 : Option Addr} {len0 cap0 : Nat} {d : DataW H} {p : List MemPlace}
    (h0 : DataW.Trod enc Ybaf.prog W 0 (fun _ => true) true 22 (.slice a0 len0 cap0) d p) :
    ∃ zs : List Int, zs.length = len0 ∧ Lies W a0 len0 (fun j => .int .u8 (zs.getD j 0)) ∧ (a0 = none → len0 = 0 ∧ cap0 = 0) := by
  obtain ⟨fuel, hf⟩ := h0
  rcases open_ints Ybaf.underlying22 Ybaf.underlying5 (by kernel_rfl) hf with ⟨hcs, _⟩ | ⟨x, l, c, zs, hcs, _, hl, hm, hz, _, hcell, hwz⟩
  · simp [Value.cells] at hcs
    obtain ⟨rfl, rfl, rfl⟩ := hcs
    exact ⟨[], rfl, fun j hj => absurd hj (Nat.not_lt_zero _), fun _ => ⟨rfl, rfl⟩⟩
  · simp [Value.cells] at hcs
    obtain ⟨rfl, rfl, rfl⟩ := hcs
    have hz' : zs.length = cap0 := by simpa using hz
    have hget : ∀ j, j < len0 → (zs.take len0).getD j 0 = zs.getD j 0 := fun j hj => by simp [List.getD, hj]
    refine ⟨zs.take len0, by simp; omega, ?_, fun e => by cases e⟩
    refine lies_of (fun i hi => ?_)
    rw [hcell i (by omega), hget i hi]

/-- The door's own heap meets the condition. -/
theorem door_met (os : Os) (args : Array Value) : laidMetH Ybaf.prog Rows.lawS5422APartRow.laid ((World.doorLaid Ybaf.prog 28 os).forCall (fun _ _ => 0) ⟨#[], args, []⟩).memory :=
  laidMetH_of_parts3 (fuel := 8) (laidMet_of_run' 8 (by kernel_rfl) (by kernel_rfl)) (by kernel_rfl) (by kernel_rfl)

set_option maxRecDepth 100000 in
theorem lifted (os : Os) (started : os.Started) (H : Type) (enc : TypeId × Value → H) :
    ReturnsInTold none {} Ybaf.checked os 3 .any Input.okWide ((OpenSpec.ofChange Rows.lawS5422APartSpec).preRow enc Ybaf.prog Ybaf.f3 [] false Rows.lawS5422APartRow.laid) (fun F => ((OpenSpec.ofChange Rows.lawS5422APartSpec).at F).post enc Ybaf.prog Ybaf.f3 false true false false) (aloneAtReturn Ybaf.prog) nothingAlways := by
  refine returnsInTold_of_row (C := Ybaf.checked) (s := OpenSpec.ofChange Rows.lawS5422APartSpec) (by kernel_rfl) own started (by kernel_rfl) Ybaf.func3
    (OpenSpec.witness_stopped_atRef (enc := enc) (C := Ybaf.checked) false (World.doorLaid Ybaf.prog 28 os) #[.slice none 0 0, .int .u64 0, .int .u64 0, .slice none 0 0, .int .u64 0, .int .u64 0] rfl (by kernel_rfl) (by kernel_rfl) (by kernel_rfl)
      (OpenSpec.preRow_of_B rfl 8 (by kernel_rfl) (by kernel_rfl) (door_met os _))) ?_
  intro F W base args ds gs before _ hF hval0 hW _ _ hsz _ _
  have hval : ∀ (j : Nat) t v, Ybaf.f3.params[j]? = some t → args[j]? = some v → Value.okWide Ybaf.prog W .any base t v := hval0
  have hW' := hW
  obtain ⟨p, q, hA0, hV, rfl, hfz, hnd⟩ := hW
  have hA : DataW.TrodAll enc Ybaf.prog W 0 (fun _ => true) true Ybaf.f3.params.toList args.toList ds p := hA0
  rw [Ybaf.params3] at hA hval
  obtain ⟨v0, vs0, d0, ds0, p0, q0, hargs, rfl, rfl, h0, r0⟩ := trodAll_cons hA
  obtain ⟨v1, vs1, d1, ds1, p1, q1, rfl, rfl, rfl, h1, r1⟩ := trodAll_cons r0
  obtain ⟨v2, vs2, d2, ds2, p2, q2, rfl, rfl, rfl, h2, r2⟩ := trodAll_cons r1
  obtain ⟨v3, vs3, d3, ds3, p3, q3, rfl, rfl, rfl, h3, r3⟩ := trodAll_cons r2
  obtain ⟨v4, vs4, d4, ds4, p4, q4, rfl, rfl, rfl, h4, r4⟩ := trodAll_cons r3
  obtain ⟨v5, vs5, d5, ds5, p5, q5, rfl, rfl, rfl, h5, r5⟩ := trodAll_cons r4
  obtain ⟨rfl, rfl, rfl⟩ := trodAll_nil r5
  obtain rfl : args = #[v0, v1, v2, v3, v4, v5] := by cases args; simp_all
  obtain ⟨g, t, cs, fuel, d, pp, rfl, _, _, _, _, _⟩ := trodVars_one hV
  obtain ⟨a0, len0, cap0, rfl⟩ := okWide_slice Ybaf.underlying22 (hval 0 22 v0 rfl rfl)
  obtain ⟨a3, len3, cap3, rfl⟩ := okWide_slice Ybaf.underlying22 (hval 3 22 v3 rfl rfl)
  have k0 := h0
  have k3 := h3
  have lt0 : ∀ x ∈ p0, x.block < W.heap.size := by obtain ⟨m, hm⟩ := k0; exact DataW.trod_lt m _ _ _ hm
  have lt3 : ∀ x ∈ p3, x.block < W.heap.size := by obtain ⟨m, hm⟩ := k3; exact DataW.trod_lt m _ _ _ hm
  obtain ⟨zs, hzl, hzc, _⟩ := open_bytes h0
  obtain ⟨ms, hml, hmc, hs0⟩ := open_bytes h3
  obtain ⟨a1, rfl, rfl, rfl, w1⟩ := open_int Ybaf.underlying23 (hval 1 23 v1 rfl rfl) h1
  obtain ⟨a2, rfl, rfl, rfl, w2⟩ := open_int Ybaf.underlying23 (hval 2 23 v2 rfl rfl) h2
  obtain ⟨a4, rfl, rfl, rfl, w4⟩ := open_int Ybaf.underlying23 (hval 4 23 v4 rfl rfl) h4
  obtain ⟨a5, rfl, rfl, rfl, w5⟩ := open_int Ybaf.underlying23 (hval 5 23 v5 rfl rfl) h5
  clear hA0 hval0
  have b1 := bounds_u64 w1
  have b2 := bounds_u64 w2
  refine (walk a0 len0 cap0 zs a1 a2 a3 len3 cap3 ms a4 a5 W (by omega) (by omega) hzl hml hzc hmc hs0).mono fun e W' ⟨he, bel⟩ => ?_
  subst he
  have hvars := Below.trodVars laidOut' bel (by kernel_rfl) hV
  exact ⟨_, rfl, _, _, _, [], _, _, hW', trodAll_mk1 (shut_bool Ybaf.underlying4 _), (trodAll_cons_mk (Below.trod laidOut' (by kernel_rfl) (of_decide_eq_true (by kernel_rfl)) k0 bel lt0) (trodAll_cons_mk (shut_int Ybaf.underlying23 w1) (trodAll_cons_mk (shut_int Ybaf.underlying23 w2) (trodAll_cons_mk (Below.trod laidOut' (by kernel_rfl) (of_decide_eq_true (by kernel_rfl)) k3 bel lt3) (trodAll_cons_mk (shut_int Ybaf.underlying23 w4) (trodAll_cons_mk (shut_int Ybaf.underlying23 w5) trodAll_mk0)))))), hvars, bel.frame _, fun h => by cases h⟩

theorem proved : Rows.LawS5422APartToldSaid :=
  Claim7.holds_of_told_tied_any_at .later 3 Ybaf.f3 "fmt.errorf" [] [] (true, "0bd1e1c61b4aab0a2b0748f1367a1bc6908687e53986dbf0712d9750a380e900") false false [.sentinel] true (by kernel_rfl) rfl rfl rfl laidOut (by kernel_rfl) rfl ⟨rfl, rfl, rfl, rfl, rfl, rfl, rfl⟩ rfl rfl (by kernel_rfl) (by kernel_rfl) Ybaf.func3 (by kernel_rfl)
    (of_decide_eq_true (by kernel_rfl)) (of_decide_eq_true (by kernel_rfl)) stops.symm rfl stopKnobs.symm (by kernel_rfl)
    (by kernel_rfl) (by kernel_rfl) (by kernel_rfl) (by kernel_rfl) (by kernel_rfl) (by kernel_rfl) (by kernel_rfl) (by kernel_rfl) (by kernel_rfl) rfl (by kernel_rfl) rfl rfl
    rfl rfl
    rfl (by kernel_rfl) (by kernel_rfl) (by kernel_rfl) (by decide) (by kernel_rfl) lawS5422APart_row_tie
    (OpenClaim.moreEntering_of (by kernel_rfl) (by kernel_rfl) (by kernel_rfl) (by kernel_rfl) (by kernel_rfl) (by kernel_rfl) (by kernel_rfl) (by kernel_rfl) (by kernel_rfl) (by kernel_rfl))
    ⟨_, WideRow.started_initial, quiet _⟩
    (fun os started _ H enc _ => lifted os started H enc)
end Go.Proofs.YbulkdhgoFmt.lawS5422APart
