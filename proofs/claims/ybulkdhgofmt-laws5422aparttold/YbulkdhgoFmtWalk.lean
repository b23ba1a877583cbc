import Derived.Test.YbulkdhgoFmtRows
import Derived.WalkKit
import Derived.WalkSpells
import Derived.WalkLawsBesides
import Derived.Handy
import Derived.Deep.CutBlock
import Derived.Deep.DeepCutAuto
import Derived.Deep.OwnRows
import Derived.Laws.CopyOwn
import Derived.BigQuiet
import Derived.Below
import Derived.Deep.Grids
import Derived.Lib.Builder
namespace Go.Proofs.YbulkdhgoFmt
open Go.RowKit
set_option linter.unusedVariables false

theorem dr (w : World) (n m : Nat) : ∃ k, w.drewN k = (w.drewN n).drewN m := ⟨n + m, by simp⟩

theorem neq_ptr (a : Addr) (w : World) : (binOp .neq 32 (.pointer (some a)) (.pointer (some a))).run Ybaf.prog w = .ok (.bool false) w := by
  cases h : Ybaf.prog.info? 5 with
  | none => exact absurd h (by intro h; have : (Ybaf.prog.info? 5).isSome = true := by kernel_rfl
                               rw [h] at this; cases this)
  | some j => exact Lib.run_neq_ptr_same w a Ybaf.underlying32 h
theorem eql_nil (t : TypeId) (ht : Ybaf.prog.underlying t = some (.slice 5)) (a : Option Addr) (n c : Nat) (w : World) : (binOp .eql t (.slice a n c) (.slice none 0 0)).run Ybaf.prog w = .ok (.bool a.isNone) w := by
  simp only [binOp]
  simp [Op.equal, Op.maxDepth, Lib.run_equalIn_slice_nil w 9999 t 5 a n c 0 0 ht]

theorem info5 : (Ybaf.prog.info? 5).map (fun i => (i.zero, i.size, i.bytes)) = some (some (.int .u8 0), 1, 1) := by kernel_rfl
theorem info5s : (Ybaf.prog.info? 5).map (·.size) = some 1 := by kernel_rfl

theorem make_of (t : TypeId) (ht : Ybaf.prog.underlying t = some (.slice 5)) (w : World) (n : Nat) (hn : n ≤ 1048576) :
    (Instr.makeSlice t (.int .i64 n) (.int .i64 n)).run Ybaf.prog w = .ok (.slice (some ⟨w.heap.size, 0, none⟩) n n) (w.alloc (.cells (madeCells #[.int .u8 0] n) 5)) := by
  have h := info5
  rw [Option.map_eq_some_iff] at h
  obtain ⟨i0, hi, e⟩ := h
  simp only [Prod.mk.injEq] at e
  obtain ⟨hz0, hz1, hz2⟩ := e
  have h := run_make (P := Ybaf.prog) w t 5 i0 _ ht hi hz0 .i64 .i64 n n (by omega) (by omega) (by rw [hz2]; omega) (by omega)
  simpa [hz1, Value.cells] using h

theorem made_list (z : Value) (n : Nat) : madeCells #[z] n = (List.replicate n z).toArray := by
  apply Array.ext
  · simp [madeCells]
  · intro i h1 h2
    simp [madeCells] at h1 ⊢
    simp [Nat.mod_one]

/-- n cells at pa hold F 0, F 1, .. -/
def Lies (w : World) (pa : Option Addr) (n : Nat) (F : Nat → Value) : Prop :=
  ∀ j, j < n → ∃ b o, pa = some ⟨b, o, none⟩ ∧ b < w.heap.size ∧ ∀ i, i < n → w.cell? ⟨b, o + i, none⟩ = some (F i)

theorem cell_of_heap {w : World} {g : Nat} {c : Array Value} {t : TypeId} {fr : Nat × Nat} (h : w.heap[g]? = some (.cells c t fr)) (j : Nat) : w.cell? ⟨g, j, none⟩ = c[j]? := by
  simp [World.cell?, h]

theorem copy_run (dT ty : TypeId) (hd : Ybaf.prog.underlying dT = some (.slice 5)) (w : World) (n : Nat) (sa : Option Addr) (sc : Nat) (xs : List Int) (hl : xs.length = n)
    (hs : Lies w sa n (fun j => .int .u8 (xs.getD j 0))) :
    ∃ w1, (Builtin.copy_ #[dT, 22] ty #[.slice (some ⟨w.heap.size, 0, none⟩) n n, .slice sa n sc]).run Ybaf.prog (w.alloc (.cells (madeCells #[.int .u8 0] n) 5)) = .ok (.int .i64 n) w1 ∧
      (∀ j, j < n → w1.cell? ⟨w.heap.size, j, none⟩ = some (.int .u8 (xs.getD j 0))) ∧ w1.heap.size = w.heap.size + 1 ∧ Below w.heap.size w w1 := by
  have hb : Below w.heap.size w (w.alloc (.cells (madeCells #[.int .u8 0] n) 5)) := (Below.refl _ _).alloc (Nat.le_refl _) _
  have hg : (w.alloc (.cells (madeCells #[.int .u8 0] n) 5)).heap[w.heap.size]? = some (.cells (madeCells #[.int .u8 0] n) 5 (0, 0)) := heap_alloc_new w _
  by_cases h0 : n = 0
  · subst h0
    refine ⟨_, run_copy_none _ dT 22 ty 5 _ _ _ _ _ _ hd info5s (by simp), fun j hj => by omega, by simp, hb⟩
  · obtain ⟨b, o, rfl, hlt, hc⟩ := hs 0 (by omega)
    have hx : (xs.map fun z => Value.int .u8 z).length = n := by simp [hl]
    have hmade : (madeCells #[Value.int .u8 0] n).size = n := by simp [madeCells]
    have hrun := run_copy_row (P := Ybaf.prog) (w.alloc (.cells (madeCells #[.int .u8 0] n) 5)) dT 22 ty 5 w.heap.size 0 n n ⟨b, o, none⟩ n sc (madeCells #[.int .u8 0] n) 5 (xs.map fun z => .int .u8 z) hd info5s hg
      (by simp [hl]) (fun j v hv => ?_) (by simp [hl, madeCells]) (fun v hv => by obtain ⟨z, _, rfl⟩ := List.mem_map.1 hv; rfl)
    · refine ⟨_, by rw [hrun, hx]; rfl, ?_, by simp [World.setRow], below_setRow hb (Nat.le_refl _) _⟩
      intro j hj
      have := setRow_heap (w.alloc (.cells (madeCells #[.int .u8 0] n) 5)) w.heap.size _ ((madeCells #[Value.int .u8 0] n).toList.take 0 ++ (xs.map fun z => Value.int .u8 z) ++ (madeCells #[Value.int .u8 0] n).toList.drop (0 + (xs.map fun z => Value.int .u8 z).length)).toArray 5 _ hg
      rw [hx] at this
      rw [cell_of_heap this]
      simp [hl, hj, List.getElem?_append, List.getD]
    · have hj : j < n := by
        have := (List.getElem?_eq_some_iff.1 hv).1
        omega
      have e := hc j hj
      have hv' : v = .int .u8 (xs.getD j 0) := by
        have hj' : j < xs.length := by omega
        simp [hj'] at hv
        simp [List.getD, hj', hv]
      subst hv'
      rw [Addr.add_lit, ← e]
      exact World.cell?_of_block (hb.block b hlt)

/-- The flattener as the law builds it. -/
structure Flat (w W : World) (B Fb L : Nat) (zs : List Int) (sv : Value) (rF rS : Int) : Prop where
  below : Below w.heap.size w W
  row : ∀ j, j < L → W.cell? ⟨B, j, none⟩ = some (.int .u8 (zs.getD j 0))
  c0 : W.cell? ⟨Fb, 0, none⟩ = some (.slice (some ⟨B, 0, none⟩) L L)
  c1 : W.cell? ⟨Fb, 1, none⟩ = some (.pointer none)
  c9 : W.cell? ⟨Fb, 9, none⟩ = some (.int .u64 rF)
  c10 : W.cell? ⟨Fb, 10, none⟩ = some (.int .u64 rS)
  c11 : W.cell? ⟨Fb, 11, none⟩ = some sv

/-- What the copy of short is. -/
def Short (W : World) (sa : Option Addr) (m : Nat) (ms : List Int) (C : Option Addr) : Prop :=
  (C.isNone = sa.isNone) ∧ (sa = none → m = 0) ∧ ∀ j, j < m → ∃ c, C = some ⟨c, 0, none⟩ ∧ W.cell? ⟨c, j, none⟩ = some (.int .u8 (ms.getD j 0))

set_option maxRecDepth 100000 in
set_option maxHeartbeats 1000000 in
theorem base_bytes (Fb B L fr nn : Nat) (hL : L ≤ 1048576) (hle : fr + nn ≤ L) (w : World) (c0 : w.cell? ⟨Fb, 0, none⟩ = some (.slice (some ⟨B, 0, none⟩) L L)) (c1 : w.cell? ⟨Fb, 1, none⟩ = some (.pointer none)) :
    Calls Ybaf.prog 4 #[.pointer (some ⟨Fb, 0, none⟩), .int .u64 fr, .int .u64 nn] w fun e w' => (∃ p, e = .returned (.slice p nn (L - fr)) ∧ (0 < nn → p = some ⟨B, fr, none⟩)) ∧ w = w' := by
  go_enter Ybaf.func4, Ybaf.ntmps4
  go_wp2
  · go_ret
    exact ⟨⟨_, rfl, fun h => by omega⟩, rfl⟩
  · go_ret
    exact ⟨⟨_, rfl, fun h => rfl⟩, rfl⟩

theorem flat_new {w wA wB : World} {B L m : Nat} {zs : List Int} {C : Option Addr} {rF rS : Int} {c2 c3 c4 c5 c6 c7 c8 : Value} (hB : B < wA.heap.size) (hb : Below w.heap.size w wA)
    (hr : ∀ j, j < L → wA.cell? ⟨B, j, none⟩ = some (.int .u8 (zs.getD j 0)))
    (h : wA.alloc (.cells #[.slice (some ⟨B, 0, none⟩) L L, .pointer none, c2, c3, c4, c5, c6, c7, c8, .int .u64 rF, .int .u64 rS, .slice C m m] 30) = wB) : Flat w wB B wA.heap.size L zs (.slice C m m) rF rS := by
  have hg := heap_alloc_new wA (.cells #[.slice (some ⟨B, 0, none⟩) L L, .pointer none, c2, c3, c4, c5, c6, c7, c8, .int .u64 rF, .int .u64 rS, .slice C m m] 30)
  rw [h] at hg
  have ha : Below wA.heap.size wA wB := by rw [← h]; exact (Below.refl _ _).alloc (Nat.le_refl _) _
  exact ⟨hb.trans (ha.mono hb.size), fun j hj => (World.cell?_of_block (ha.block B hB)).trans (hr j hj), by rw [cell_of_heap hg]; rfl, by rw [cell_of_heap hg]; rfl, by rw [cell_of_heap hg]; rfl, by rw [cell_of_heap hg]; rfl, by rw [cell_of_heap hg]; rfl⟩

theorem short_below {wA wB : World} {sa : Option Addr} {m : Nat} {ms : List Int} {C : Option Addr} (h : Short wA sa m ms C) (hb : Below wA.heap.size wA wB) : Short wB sa m ms C :=
  ⟨h.1, h.2.1, fun j hj => by
    obtain ⟨c, e, hc⟩ := h.2.2 j hj
    exact ⟨c, e, (World.cell?_of_block (hb.block c (World.block_lt_of_cell? wA _ hc))).trans hc⟩⟩

set_option maxRecDepth 100000 in
set_option maxHeartbeats 4000000 in
theorem law_main (ba : Option Addr) (L bc : Nat) (zs : List Int) (f n : Nat) (sa : Option Addr) (m mc : Nat) (ms : List Int) (rF rS : Int) (w : World)
    (hL : L ≤ 1048576) (hm : m ≤ 1048576) (hzl : zs.length = L) (hml : ms.length = m) (hz : Lies w ba L (fun j => .int .u8 (zs.getD j 0))) (hs : Lies w sa m (fun j => .int .u8 (ms.getD j 0)))
    (hs0 : sa = none → m = 0 ∧ mc = 0) :
    Calls Ybaf.prog 3 #[.slice ba L bc, .int .u64 f, .int .u64 n, .slice sa m mc, .int .u64 rF, .int .u64 rS] w fun e w' => e = .returned (.bool true) ∧ Below w.heap.size w w' := by
  have h1 : ¬ (1048576 : Int) < (L : Int) := by omega
  have h2 : ¬ (1048576 : Int) < (m : Int) := by omega
  have HZ : Hid (Lies w ba L (fun j => .int .u8 (zs.getD j 0))) := hz
  have HS : Hid (Lies w sa m (fun j => .int .u8 (ms.getD j 0))) := hs
  have HS0 : Hid (sa = none → m = 0 ∧ mc = 0) := hs0
  clear hs hs0
  have mk22 := fun w => make_of 22 Ybaf.underlying22 w L hL
  have mk24 := fun w => make_of 24 Ybaf.underlying24 w m hm
  obtain ⟨w1, hcp, hrow, hsz, hbel⟩ := copy_run 22 3 Ybaf.underlying22 w L ba bc zs hzl hz
  have hneq := fun w => run_neq_slice_nil_any (P := Ybaf.prog) w 22 5 sa m mc 0 0 Ybaf.underlying22
  have HR : Hid ((∀ j, j < L → w1.cell? ⟨w.heap.size, j, none⟩ = some (.int .u8 (zs.getD j 0))) ∧ Below w.heap.size w w1) := ⟨hrow, hbel⟩
  have HSZ : Hid (w1.heap.size = w.heap.size + 1) := hsz
  clear hz hrow hbel hsz
  obtain ⟨fr, hfr, hfr1⟩ : ∃ fr : Nat, ((f : Int) % ((L : Int) + 1) = (fr : Int)) ∧ (fr : Int) ≤ (L : Int) := ⟨f % (L + 1), by simp, by have := Nat.mod_lt f (show 0 < L + 1 by omega); omega⟩
  obtain ⟨nn, hnn, hnn1⟩ : ∃ nn : Nat, ((n : Int) % ((L : Int) - (fr : Int) + 1) = (nn : Int)) ∧ (nn : Int) ≤ (L : Int) - (fr : Int) := by
    have h0 : 0 ≤ (n : Int) % ((L : Int) - (fr : Int) + 1) := Int.emod_nonneg _ (by omega)
    have h3 := Int.emod_lt_of_pos (n : Int) (show 0 < (L : Int) - (fr : Int) + 1 by omega)
    exact ⟨((n : Int) % ((L : Int) - (fr : Int) + 1)).toNat, by omega, by omega⟩
  have hw1 : IntKind.u64.wrap ((L : Int) - (fr : Int)) = (L : Int) - (fr : Int) := by rw [IntKind.wrap_u64]; omega
  have hw2 : IntKind.u64.wrap ((L : Int) - (fr : Int) + 1) = (L : Int) - (fr : Int) + 1 := by rw [IntKind.wrap_u64]; omega
  have hw3 : ¬ ((L : Int) - (fr : Int) + 1 = 0) := by omega
  go_enter Ybaf.func3, Ybaf.ntmps3
  go_upto_if 49 with fail
  rw [hfr, hnn]
  clear hw1 hw2 hw3 hfr hnn
  go_cut [15] from 50 to 55 (fun v15 w' => (∃ C, v15 = .slice C m m ∧ Short w' sa m ms C) ∧ (∀ j, j < L → w'.cell? ⟨w.heap.size, j, none⟩ = some (.int .u8 (zs.getD j 0))) ∧ w.heap.size < w'.heap.size ∧ Below w.heap.size w w')
  case first =>
    cases hsa : sa with
    | none =>
      subst hsa
      simp only [Option.isNone_none, Bool.not_true] at hneq
      have H0 : Hid (m = 0) := (HS0.out rfl).1
      go_wp2
      go_meet
      case rel =>
        have h0 := H0.out
        have hz := HSZ.out
        exact ⟨⟨none, by rw [h0], ⟨rfl, ⟨fun _ => h0, fun j hj => by omega⟩⟩⟩, HR.out.1, by omega, HR.out.2⟩
    | some x =>
      subst hsa
      simp only [Option.isNone_some, Bool.not_false] at hneq
      have hz := HSZ.out
      have hS1 : Lies w1 (some x) m (fun j => .int .u8 (ms.getD j 0)) := fun j hj => by
        obtain ⟨b, o, e, hb, hc⟩ := HS.out j hj
        exact ⟨b, o, e, by omega, fun i hi => (World.cell?_of_block (HR.out.2.block b hb)).trans (hc i hi)⟩
      obtain ⟨w2, hcp2, hrow2, hsz2, hbel2⟩ := copy_run 24 3 Ybaf.underlying24 w1 m (some x) mc ms hml hS1
      have HR2 : Hid ((∀ j, j < m → w2.cell? ⟨w1.heap.size, j, none⟩ = some (.int .u8 (ms.getD j 0))) ∧ Below w1.heap.size w1 w2 ∧ w2.heap.size = w1.heap.size + 1) := ⟨hrow2, hbel2, hsz2⟩
      clear hrow2 hbel2 hS1 hsz2 hz
      go_wp2
      go_meet
      case rel =>
        have hz := HSZ.out
        have hz2 := HR2.out.2.2
        exact ⟨⟨_, rfl, ⟨rfl, ⟨fun e => (by cases e), fun j hj => ⟨w1.heap.size, rfl, HR2.out.1 j hj⟩⟩⟩⟩, fun j hj => (World.cell?_of_block (HR2.out.2.1.block w.heap.size (by omega))).trans (HR.out.1 j hj), by omega, HR.out.2.trans (HR2.out.2.1.mono (by omega))⟩
  case rest =>
    obtain ⟨⟨C, rfl, hsh⟩, hrow, hlt, hbel⟩ := hcut
    obtain ⟨wA, h⟩ : ∃ x, x = wc := ⟨_, rfl⟩
    subst h
    have HC : Hid (Short wA sa m ms C ∧ (∀ j, j < L → wA.cell? ⟨w.heap.size, j, none⟩ = some (.int .u8 (zs.getD j 0))) ∧ Below w.heap.size w wA) := ⟨hsh, hrow, hbel⟩
    clear hsh hrow hbel HR hcp HSZ w1
    go_upto_region 13 with fail
    generalize hwB : World.alloc wA _ = wB
    have hfl := flat_new hlt HC.out.2.2 HC.out.2.1 hwB
    have HSh : Hid (Short wB sa m ms C) := short_below HC.out.1 (by rw [← hwB]; exact (Below.refl _ _).alloc (Nat.le_refl _) _)
    generalize wA.heap.size = Fb at hfl ⊢
    have HF : Hid (Flat w wB w.heap.size Fb L zs (.slice C m m) rF rS) := hfl
    have c0 := hfl.c0
    have c1 := hfl.c1
    have c9 := hfl.c9
    have c10 := hfl.c10
    have c11 := hfl.c11
    clear hfl
    clear HC hwB hlt wA mk22 mk24 hneq
    have hfn : fr + nn ≤ L := by omega
    go_upto_region 14 with (go_at_call 4; refine (base_bytes Fb w.heap.size L fr nn hL hfn _ c0 c1).mono ?_; rintro _ _ ⟨⟨p, rfl, hp⟩, rfl⟩)
    have HP : Hid (0 < nn → p = some ⟨w.heap.size, fr, none⟩) := hp
    clear hp
    go_upto_block 0 with fail
    go_cut [18] from 72 to 87 (fun _ w' => ∃ k, wB.drewN k = w')
    case first =>
      go_wp2_with fail
      go_loopw [18] (fun v wr => ∃ i k : Nat, i ≤ nn ∧ v = .int .u64 i ∧ wB.drewN k = wr) (fun v _ => nn - (intOf v).toNat)
      case atStart => exact ⟨0, 0, by omega, rfl, rfl⟩
      case round =>
        obtain ⟨i, k, hi, rfl, rfl⟩ := hrel
        by_cases hlt : i < nn
        · obtain rfl := HP.out (by omega)
          have hfi : fr + i < L := by omega
          have e1 := HF.out.row (fr + i) hfi
          obtain ⟨b, o, rfl, hb, hc⟩ := HZ.out (fr + i) hfi
          have e2 := (World.cell?_of_block (w := w) (w' := wB) (a := ⟨b, o + (fr + i), none⟩) (HF.out.below.block b hb)).trans (hc _ hfi)
          obtain ⟨z, hz⟩ : ∃ z, zs.getD (fr + i) 0 = z := ⟨_, rfl⟩
          simp only [hz] at e1 e2
          clear hc hz
          go_wp2
          go_quiet (fail)
          go_wp2
          go_roundw
          case rel => exact ⟨i + 1, _, by omega, by go_num, rfl⟩
          case measure => simp [intOf]; omega
        · go_wp2
          go_meet
          case rel => exact ⟨_, rfl⟩
    case rest =>
      obtain ⟨k1, rfl⟩ := hcut
      go_upto_region 21 with fail
      go_cut [97] from 88 to 97 (fun v w' => v = .bool false ∧ ∃ k, wB.drewN k = w')
      case first =>
        have hpn := fun (w : World) (a : Addr) => neq_ptr a w
        by_cases h0 : 0 < nn
        · obtain rfl := HP.out h0
          have hfi : fr < L := by omega
          go_wp2
          go_quiet (fail)
          go_wp2
          go_meet
          case rel => exact ⟨rfl, dr _ _ _⟩
        · have hd : decide ((0 : Int) < (nn : Int)) = false := by simp; omega
          go_wp2
          go_quiet (fail)
          go_wp2
          go_meet
          case rel => exact ⟨rfl, dr _ _ _⟩
      case rest =>
        obtain ⟨rfl, k2, rfl⟩ := hcut
        go_upto_region 25 with fail
        go_cut [128] from 115 to 128 (fun v w' => v = .bool false ∧ ∃ k, wB.drewN k = w')
        case first =>
          have hpn := fun (w : World) (a : Addr) => neq_ptr a w
          by_cases h0 : 0 < L
          · go_wp2
            go_quiet (fail)
            go_wp2
            go_meet
            case rel => exact ⟨rfl, dr _ _ _⟩
          · have hd : decide ((0 : Int) < (L : Int)) = false := by simp; omega
            go_wp2
            go_quiet (fail)
            go_wp2
            go_meet
            case rel => exact ⟨rfl, dr _ _ _⟩
        case rest =>
          obtain ⟨rfl, k3, rfl⟩ := hcut
          go_upto_block 2 with fail
          go_cut [19] from 129 to 143 (fun _ w' => ∃ k, wB.drewN k = w')
          case first =>
            go_wp2_with fail
            go_loopw [19] (fun v wr => ∃ i k : Nat, i ≤ L ∧ v = .int .i64 i ∧ wB.drewN k = wr) (fun v _ => L - (intOf v).toNat)
            case atStart => exact ⟨0, _, by omega, rfl, rfl⟩
            case round =>
              obtain ⟨i, k, hi, rfl, rfl⟩ := hrel
              by_cases hlt : i < L
              · have e1 := HF.out.row i hlt
                obtain ⟨b, o, rfl, hb, hc⟩ := HZ.out i hlt
                have e2 := (World.cell?_of_block (w := w) (w' := wB) (a := ⟨b, o + i, none⟩) (HF.out.below.block b hb)).trans (hc _ hlt)
                obtain ⟨z, hz⟩ : ∃ z, zs.getD i 0 = z := ⟨_, rfl⟩
                simp only [hz] at e1 e2
                clear hc hz
                go_wp2
                go_quiet (fail)
                go_wp2
                go_roundw
                case rel => exact ⟨i + 1, _, by omega, by go_num, rfl⟩
                case measure => simp [intOf]; omega
              · go_wp2
                go_meet
                case rel => exact ⟨_, rfl⟩
          case rest =>
            obtain ⟨k4, rfl⟩ := hcut
            have eq24 := eql_nil 24 Ybaf.underlying24 C m m
            have eq22 := eql_nil 22 Ybaf.underlying22 sa m mc
            have hCn := HSh.out.1
            rw [hCn] at eq24
            go_upto_block 4 with fail
            go_cut [20] from 162 to 179 (fun _ w' => ∃ k, wB.drewN k = w')
            case first =>
              go_wp2_with fail
              go_loopw [20] (fun v wr => ∃ i k : Nat, i ≤ m ∧ v = .int .i64 i ∧ wB.drewN k = wr) (fun v _ => m - (intOf v).toNat)
              case atStart => exact ⟨0, _, by omega, rfl, rfl⟩
              case round =>
                obtain ⟨i, k, hi, rfl, rfl⟩ := hrel
                by_cases hlt : i < m
                · obtain ⟨c, rfl, e1⟩ := HSh.out.2.2 i hlt
                  obtain ⟨b, o, rfl, hb, hc⟩ := HS.out i hlt
                  have e2 := (World.cell?_of_block (w := w) (w' := wB) (a := ⟨b, o + i, none⟩) (HF.out.below.block b hb)).trans (hc _ hlt)
                  obtain ⟨z, hz⟩ : ∃ z, ms.getD i 0 = z := ⟨_, rfl⟩
                  simp only [hz] at e1 e2
                  clear hc hz
                  go_wp2
                  go_quiet (fail)
                  go_wp2
                  go_roundw
                  case rel => exact ⟨i + 1, _, by omega, by go_num, rfl⟩
                  case measure => simp [intOf]; omega
                · go_wp2
                  go_meet
                  case rel => exact ⟨_, rfl⟩
            case rest =>
              obtain ⟨k5, rfl⟩ := hcut
              go_wp2
              go_ret
              exact ⟨rfl, HF.out.below.trans ⟨rfl, rfl, rfl, Nat.le_refl _, fun _ _ => rfl⟩⟩
end Go.Proofs.YbulkdhgoFmt
