import Derived.Test.YbulkdhekCCheap
import Derived.Handy
import Derived.Deep.CutBlock
import Derived.Deep.DeepCutAuto
namespace Go.Proofs.Ybulkdhek
open Go.RowKit
set_option linter.unusedVariables false

def rU (u : Bool) (ts : List Bool) (l : Int) : Bool := u && rF ts l

theorem info86 : (Yba.prog.info? 86).map (fun i => (i.zero, i.size, i.bytes)) = some (some (.pointer none), 1, 8) := by kernel_rfl
theorem make53 (w : World) (n : Nat) (hn : n ≤ 65536) : (Instr.makeSlice 53 (.int .i64 n) (.int .i64 n)).run Yba.prog w = .ok (.slice (some ⟨w.heap.size, 0, none⟩) n n) (w.alloc (.cells (madeCells #[.pointer none] n) 86)) := by
  obtain ⟨i0, hi, hz0, hz1, hz2⟩ := info_parts info86
  have h := run_make (P := Yba.prog) w 53 86 i0 _ Yba.underlying53 hi hz0 .i64 .i64 n n (by omega) (by omega) (by rw [hz2]; omega) (by omega)
  simpa [hz1, Value.cells] using h

/-- The blocks, in the order in which they are made. -/
def envOf (w : World) (ca : Option Addr) (cl cc : Nat) (cs : List Int) (ta : Option Addr) (tl tc : Nat) (ts : List Bool) (h : Nat) : Env :=
  { w0 := w, ca := ca, cl := cl, cc := cc, cs := cs, ta := ta, tl := tl, tc := tc, ts := ts, C := w.heap.size, T := w.heap.size + 1, A := w.heap.size + 1 + 1, O := w.heap.size + 1 + 1 + 1, K := w.heap.size + 1 + 1 + 1 + 1, L := w.heap.size + 1 + 1 + 1 + 1 + 1, B := w.heap.size + 6, h := h }

theorem st_start (w : World) (ca : Option Addr) (cl cc : Nat) (cs : List Int) (ta : Option Addr) (tl tc : Nat) (ts : List Bool) (h : Nat) (o3 : Obj) (a : Array Value) (t1 t2 t4 : TypeId) (hh : h < 300) (hcl : cl ≤ 9223372036854775807) (htl : tl ≤ 9223372036854775807)
    (hcs : cs.length = cl) (hts : ts.length = tl) (hC : LiesC w ca cl (fun j => .int .i64 (cs.getD j 0))) (hT : LiesC w ta tl (fun j => .bool (ts.getD j false))) (ha : a[3]? = some (.slice (some ⟨w.heap.size + 1 + 1, 0, none⟩) h h)) :
    (envOf w ca cl cc cs ta tl tc ts h).Ok ∧ St (envOf w ca cl cc cs ta tl tc ts h) ((((((w.alloc (.cells #[.slice ca cl cc] t1)).alloc (.cells #[.slice ta tl tc] t2)).alloc o3).alloc (.cells a t4)).alloc (.cells #[.int .i64 0] 3)).alloc (.cells #[.slice none 0 0] 25)) 0 [] (.slice none 0 0) := by
  refine ⟨⟨hcs, hcl, hts, htl, hC, hT, by show h ≤ 300; omega, ?_, ?_, ?_, ?_, ?_, ?_⟩, ?_⟩
  · show w.heap.size ≤ w.heap.size + 1 + 1 + 1 + 1 ∧ w.heap.size + 1 + 1 + 1 + 1 < w.heap.size + 6; omega
  · show w.heap.size ≤ w.heap.size ∧ w.heap.size < w.heap.size + 6; omega
  · show w.heap.size ≤ w.heap.size + 1 + 1 + 1 + 1 + 1 ∧ w.heap.size + 1 + 1 + 1 + 1 + 1 < w.heap.size + 6; omega
  · show w.heap.size ≤ w.heap.size + 1 ∧ w.heap.size + 1 < w.heap.size + 6; omega
  · show w.heap.size ≤ w.heap.size + 1 + 1 + 1 ∧ w.heap.size + 1 + 1 + 1 < w.heap.size + 6; omega
  · show w.heap.size + 1 + 1 + 1 + 1 ≠ w.heap.size ∧ w.heap.size + 1 + 1 + 1 + 1 ≠ w.heap.size + 1 + 1 + 1 + 1 + 1 ∧ w.heap.size + 1 + 1 + 1 + 1 ≠ w.heap.size + 1 ∧ w.heap.size + 1 + 1 + 1 + 1 ≠ w.heap.size + 1 + 1 + 1 ∧
      w.heap.size ≠ w.heap.size + 1 + 1 + 1 + 1 + 1 ∧ w.heap.size + 1 + 1 + 1 + 1 + 1 ≠ w.heap.size + 1 ∧ w.heap.size + 1 + 1 + 1 + 1 + 1 ≠ w.heap.size + 1 + 1 + 1
    omega
  · obtain ⟨w1, e1⟩ : ∃ x, x = w.alloc (.cells #[.slice ca cl cc] t1) := ⟨_, rfl⟩
    obtain ⟨w2, e2⟩ : ∃ x, x = w1.alloc (.cells #[.slice ta tl tc] t2) := ⟨_, rfl⟩
    obtain ⟨w3, e3⟩ : ∃ x, x = w2.alloc o3 := ⟨_, rfl⟩
    obtain ⟨w4, e4⟩ : ∃ x, x = w3.alloc (.cells a t4) := ⟨_, rfl⟩
    obtain ⟨w5, e5⟩ : ∃ x, x = w4.alloc (.cells #[.int .i64 0] 3) := ⟨_, rfl⟩
    obtain ⟨w6, e6⟩ : ∃ x, x = w5.alloc (.cells #[.slice none 0 0] 25) := ⟨_, rfl⟩
    have z1 : w1.heap.size = w.heap.size + 1 := by rw [e1]; simp
    have z2 : w2.heap.size = w.heap.size + 1 + 1 := by rw [e2]; simp [z1]
    have z3 : w3.heap.size = w.heap.size + 1 + 1 + 1 := by rw [e3]; simp [z2]
    have z4 : w4.heap.size = w.heap.size + 1 + 1 + 1 + 1 := by rw [e4]; simp [z3]
    have z5 : w5.heap.size = w.heap.size + 1 + 1 + 1 + 1 + 1 := by rw [e5]; simp [z4]
    have z6 : w6.heap.size = w.heap.size + 6 := by rw [e6]; simp [z5]
    have K1 : Kept (fun _ => False) w w1 := by rw [e1]; exact (Kept.refl _ _).alloc _
    have K2 : Kept (fun _ => False) w1 w2 := by rw [e2]; exact (Kept.refl _ _).alloc _
    have K3 : Kept (fun _ => False) w2 w3 := by rw [e3]; exact (Kept.refl _ _).alloc _
    have K4 : Kept (fun _ => False) w3 w4 := by rw [e4]; exact (Kept.refl _ _).alloc _
    have K5 : Kept (fun _ => False) w4 w5 := by rw [e5]; exact (Kept.refl _ _).alloc _
    have K6 : Kept (fun _ => False) w5 w6 := by rw [e6]; exact (Kept.refl _ _).alloc _
    have b1 : w1.heap[w.heap.size]? = some (.cells #[.slice ca cl cc] t1 (0, 0)) := by rw [e1]; exact heap_alloc_new w _
    have b2 : w2.heap[w.heap.size + 1]? = some (.cells #[.slice ta tl tc] t2 (0, 0)) := by rw [e2, ← z1]; exact heap_alloc_new w1 _
    have b4 : w4.heap[w.heap.size + 1 + 1 + 1]? = some (.cells a t4 (0, 0)) := by rw [e4, ← z3]; exact heap_alloc_new w3 _
    have b5 : w5.heap[w.heap.size + 1 + 1 + 1 + 1]? = some (.cells #[.int .i64 0] 3 (0, 0)) := by rw [e5, ← z4]; exact heap_alloc_new w4 _
    have b6 : w6.heap[w.heap.size + 1 + 1 + 1 + 1 + 1]? = some (.cells #[.slice none 0 0] 25 (0, 0)) := by rw [e6, ← z5]; exact heap_alloc_new w5 _
    rw [← e1, ← e2, ← e3, ← e4, ← e5, ← e6]
    have d1 := ((((K2.trans K3).trans K4).trans K5).trans K6).at b1 (fun h => h)
    have d2 := (((K3.trans K4).trans K5).trans K6).at b2 (fun h => h)
    have d4 := (K5.trans K6).at b4 (fun h => h)
    have d5 := K6.at b5 (fun h => h)
    refine ⟨d5, cell_of_one d1, cell_of_one d2, b6, World.ownsRow_nil _ _ _ _, ?_, by show w.heap.size + 6 ≤ _; omega, ?_⟩
    · show w6.cell? ⟨w.heap.size + 1 + 1 + 1, 3, none⟩ = some (.slice (some ⟨w.heap.size + 1 + 1, 0, none⟩) h h)
      simp only [World.cell?, d4]
      simpa using ha
    · exact (((((K1.trans K2).trans K3).trans K4).trans K5).trans K6).below (B := w.heap.size) (Nat.le_refl _) (fun _ h => h.elim)

theorem ref_anyU (u : Bool) (ta : Option Addr) (tl tc : Nat) (ts : List Bool) (l : Int) (w : World) (hl : ts.length = tl) (htl : tl ≤ 9223372036854775807) (hL : LiesC w ta tl (fun j => .bool (ts.getD j false))) :
    Calls Yba.prog 11 #[.bool u, .slice ta tl tc, .int .i64 l] w fun e w' => e = .returned (.bool (rU u ts l)) ∧ w = w' := (ref_any u ta tl tc ts l w hl htl hL).mono fun e w' hh => ⟨hh.1, hh.2.symm⟩
theorem cost_anyV (ca : Option Addr) (cl cc : Nat) (cs : List Int) (l : Int) (w : World) (hl : cs.length = cl) (hcl : cl ≤ 9223372036854775807) (hL : LiesC w ca cl (fun j => .int .i64 (cs.getD j 0))) :
    Calls Yba.prog 9 #[.slice ca cl cc, .int .i64 l] w fun e w' => e = .returned (.int .i64 (cF cs l)) ∧ w = w' := (cost_any ca cl cc cs l w hl hcl hL).mono fun e w' hh => ⟨hh.1, hh.2.symm⟩

theorem log_shape {w : World} {base : Nat} {e : TypeId} {size : Nat} {v : Value} {n : Nat} {xs : List Value} (h : w.ownsRow base e size v n xs) : ∃ ao cp, v = .slice ao n cp := by
  rcases h.2 with ⟨rfl, rfl⟩ | ⟨g, cap, cur, rfl, _⟩
  · exact ⟨_, _, rfl⟩
  · exact ⟨_, _, rfl⟩
theorem cntUp_hit {r : Int → Bool} {lo : Int} {i : Nat} (hr : r (lo + i) = false) : cntUp r lo (i + 1) = cntUp r lo i + 1 := by simp [cntUp, hr]
theorem cntUp_miss {r : Int → Bool} {lo : Int} {i : Nat} (hr : r (lo + i) = true) : cntUp r lo (i + 1) = cntUp r lo i := by simp [cntUp, hr]

theorem least_end {r : Int → Bool} {c : Int → Int} {h lo m : Int} {N : Nat} (g : Least r c h lo (lo + N) m) (h1 : h - lo ≤ N) (h2 : N = 0 ∨ (N : Int) = h - lo) : Least r c h lo h m := by
  rcases h2 with e | e
  · subst e
    refine ⟨?_, g.top, fun l a b => by omega⟩
    rcases g.at_ with e | ⟨l, a, b, _⟩
    · exact .inl e
    · omega
  · rw [show lo + (N : Int) = h by omega] at g; exact g
theorem want_end {r : Int → Bool} {c : Int → Int} {h lo m wt : Int} {N : Nat} (g : Want r c h lo (lo + N) m wt) (h1 : h - lo ≤ N) (h2 : N = 0 ∨ (N : Int) = h - lo) : Want r c h lo h m wt := by
  rcases h2 with e | e
  · subst e
    rcases g with ⟨e, g⟩ | ⟨a, b, _⟩
    · exact .inl ⟨e, fun l a b => by omega⟩
    · omega
  · rw [show lo + (N : Int) = h by omega] at g; exact g
theorem best_end (r : Int → Bool) (c : Int → Int) {h lo : Int} {N : Nat} (h1 : h - lo ≤ N) (h2 : N = 0 ∨ (N : Int) = h - lo) : Best r c h lo (bst r c h N) := by
  have g := bst_best r c h N
  rcases h2 with e | e
  · subst e
    exact ⟨.inl rfl, Int.le_refl _, fun l a b => by omega, fun l a b => by unfold bst at a; omega, fun h => absurd rfl h⟩
  · rw [show h - (N : Int) = lo by omega] at g; exact g
theorem cnt_end (r : Int → Bool) {h lo : Int} {N : Nat} (h2 : N = 0 ∨ (N : Int) = h - lo) : cnt r h N = cntUp r lo N := by
  rcases h2 with e | e
  · subst e; rfl
  · rw [cnt_eq, show h - (N : Int) = lo by omega]

set_option maxRecDepth 100000 in
set_option maxHeartbeats 4000000 in
theorem lawC_main (hRaw lo : Int) (ca : Option Addr) (cl cc : Nat) (cs : List Int) (ta : Option Addr) (tl tc : Nat) (ts : List Bool) (u : Bool) (w : World) (h : Nat) (hh : h < 300) (hR0 : 0 ≤ hRaw) (hR1 : hRaw ≤ 65535) (hR : hRaw % 300 = (h : Int))
    (hlo : -65536 ≤ lo) (hlo2 : lo ≤ 9223372036854775807) (hcl : cl ≤ 9223372036854775807) (htl : tl ≤ 9223372036854775807)
    (hcs : cs.length = cl) (hts : ts.length = tl) (hC : LiesC w ca cl (fun j => .int .i64 (cs.getD j 0))) (hT : LiesC w ta tl (fun j => .bool (ts.getD j false))) (N : Nat) (hN1 : (h : Int) - lo ≤ N) (hN2 : N = 0 ∨ (N : Int) = (h : Int) - lo) :
    Calls Yba.prog 4 #[.int .u16 hRaw, .int .i64 lo, .slice ca cl cc, .slice ta tl tc, .bool u] w fun e w' => e = .returned (.bool true) ∧ Below w.heap.size w w' := by
  have HN : Hid (((h : Int) - lo ≤ N) ∧ (N = 0 ∨ (N : Int) = (h : Int) - lo)) := ⟨hN1, hN2⟩
  have HC : Hid (cs.length = cl ∧ ts.length = tl ∧ LiesC w ca cl (fun j => .int .i64 (cs.getD j 0)) ∧ LiesC w ta tl (fun j => .bool (ts.getD j false))) := ⟨hcs, hts, hC, hT⟩
  clear hN1 hN2 hcs hts hC hT
  have hnlo : ¬ lo < -65536 := by omega
  have hm53 : ∀ w, (Instr.makeSlice 53 (.int .i64 h) (.int .i64 h)).run Yba.prog w = .ok (.slice (some ⟨w.heap.size, 0, none⟩) h h) (w.alloc (.cells (madeCells #[.pointer none] h) 86)) := fun w => make53 w h (by omega)
  go_enter Yba.func4, Yba.ntmps4
  go_upto_if 36 with fail
  obtain ⟨hOk0, hSt0⟩ := st_start w ca cl cc cs ta tl tc ts h (.cells (madeCells #[.pointer none] h) 86) #[.pointer none, .slice none 0 0, .bool false, .slice (some ⟨w.heap.size + 1 + 1, 0, none⟩) h h, .slice none 0 0, .slice none 0 0, .slice none 0 0, .slice none 0 0, .slice none 0 0, .slice none 0 0, .slice none 0 0, .int .i64 0, .slice none 0 0, .slice none 0 0, .slice none 0 0, .slice none 0 0, .int .u32 0] 51 24 61 hh hcl htl HC.out.1 HC.out.2.1 HC.out.2.2.1 HC.out.2.2.2 rfl
  generalize (((((w.alloc (.cells #[.slice ca cl cc] 51)).alloc (.cells #[.slice ta tl tc] 24)).alloc (.cells (madeCells #[.pointer none] h) 86)).alloc (.cells #[.pointer none, .slice none 0 0, .bool false, .slice (some ⟨w.heap.size + 1 + 1, 0, none⟩) h h, .slice none 0 0, .slice none 0 0, .slice none 0 0, .slice none 0 0, .slice none 0 0, .slice none 0 0, .slice none 0 0, .int .i64 0, .slice none 0 0, .slice none 0 0, .slice none 0 0, .slice none 0 0, .int .u32 0] 61)).alloc (.cells #[.int .i64 0] 3)).alloc (.cells #[.slice none 0 0] 25) = wS at hSt0 ⊢
  have HOk : Hid ((envOf w ca cl cc cs ta tl tc ts h).Ok) := hOk0
  have HSt : Hid (St (envOf w ca cl cc cs ta tl tc ts h) wS 0 [] (.slice none 0 0)) := hSt0
  clear hOk0 hSt0 hm53 hR
  go_cut [16] from 26 to 37 (fun v w' => v = (if u then .func (.func 10) #[] #[.pointer (some ⟨w.heap.size + 1 + 1 + 1 + 1 + 1, 0, none⟩), .pointer (some ⟨w.heap.size + 1, 0, none⟩)] else .nilFunc) ∧ wS = w')
  case first =>
    cases u with
    | true =>
      go_wp2
      go_meet
      case rel => exact ⟨rfl, rfl⟩
    | false =>
      go_wp2
      go_meet
      case rel => exact ⟨rfl, rfl⟩
  case rest =>
    obtain ⟨rfl, rfl⟩ := hcut
    go_upto_region 11 with fail
    go_cut [16, 17] from 26 to 42 (fun _ v w' => v = .int .i64 (bst (rU u ts) (cF cs) h N) ∧ ∃ lv, St (envOf w ca cl cc cs ta tl tc ts h) w' (2 * cnt (rU u ts) h N) (if u then logOf h N else []) lv)
    case first =>
      cases u with
      | true =>
        simp only [if_true]
        go_wp2_with fail
        refine (cheap_ref (envOf w ca cl cc cs ta tl tc ts h) HOk.out wS lo hlo hlo2 _ HSt.out N HN.out.1 HN.out.2).mono ?_
        rintro e w' ⟨rfl, lv', hst⟩
        have HS2 : Hid (St (envOf w ca cl cc cs ta tl tc ts h) w' (2 * cnt (rF ts) h N) (logOf h N) lv') := hst
        clear hst
        go_wp2
        go_meet
        case rel => exact ⟨rfl, lv', HS2.out⟩
      | false =>
        simp only [Bool.false_eq_true, if_false]
        go_wp2_with fail
        refine (cheap_nil (envOf w ca cl cc cs ta tl tc ts h) HOk.out wS lo hlo hlo2 _ HSt.out N HN.out.1 HN.out.2).mono ?_
        rintro e w' ⟨rfl, lv', hst⟩
        have HS2 : Hid (St (envOf w ca cl cc cs ta tl tc ts h) w' (2 * cnt (fun _ => false) h N) [] lv') := hst
        clear hst
        go_wp2
        go_meet
        case rel => exact ⟨rfl, lv', HS2.out⟩
    case rest =>
      obtain ⟨rfl, lv, hst⟩ := hcut
      obtain ⟨wD, hwD⟩ : ∃ x, x = wc := ⟨_, rfl⟩
      subst hwD
      have HS : Hid (St (envOf w ca cl cc cs ta tl tc ts h) wD (2 * cnt (rU u ts) h N) (if u then logOf h N else []) lv) := hst
      have cC : wD.cell? ⟨w.heap.size, 0, none⟩ = some (.slice ca cl cc) := hst.cC
      have cT : wD.cell? ⟨w.heap.size + 1, 0, none⟩ = some (.slice ta tl tc) := hst.cT
      have LC : Hid (LiesC wD ca cl (fun j => .int .i64 (cs.getD j 0))) := lies_below HC.out.2.2.1 hst.below
      have LT : Hid (LiesC wD ta tl (fun j => .bool (ts.getD j false))) := lies_below HC.out.2.2.2 hst.below
      have hNb : (N : Int) ≤ 65836 := by rcases HN.out.2 with h | h <;> omega
      clear hst HSt
      obtain ⟨b, hb⟩ : ∃ b, bst (rU u ts) (cF cs) h N = b := ⟨_, rfl⟩
      have HB : Hid (bst (rU u ts) (cF cs) h N = b) := hb
      rw [hb]
      clear hb
      go_upto_block 0 with (first | (go_at_call 9; refine (cost_anyV ca cl cc cs _ _ HC.out.1 hcl LC.out).mono ?_; rintro e w' ⟨rfl, rfl⟩) | (go_at_call 11; refine (ref_anyU u ta tl tc ts _ _ HC.out.2.1 htl LT.out).mono ?_; rintro e w' ⟨rfl, rfl⟩))
      go_cut [18, 19, 20, 21] from 26 to 65 (fun v18 v19 _ _ w' => ∃ m, v18 = .int .i64 m ∧ v19 = .int .i64 (cntUp (rU u ts) lo N) ∧ Least (rU u ts) (cF cs) h lo h m ∧ wD = w')
      case first =>
        go_wp2_with fail
        go_loop [18, 19, 20] (fun v18 v19 v20 => ∃ i m, i ≤ N ∧ v20 = .int .i64 (lo + (i : Nat)) ∧ v19 = .int .i64 (cntUp (rU u ts) lo i) ∧ v18 = .int .i64 m ∧ Least (rU u ts) (cF cs) h lo (lo + (i : Nat)) m) (fun _ _ v20 => ((h : Int) - intOf v20).toNat)
        case atStart => exact ⟨0, _, by omega, by go_num, rfl, rfl, by simpa using least_start _ _ _ _⟩
        case round =>
          obtain ⟨i, m, hi, rfl, rfl, rfl, hle⟩ := hrel
          have HLe : Hid (Least (rU u ts) (cF cs) h lo (lo + (i : Nat)) m) := hle
          have hcu := cntUp_le (rU u ts) lo i
          clear hle
          obtain ⟨l, hl⟩ : ∃ l, lo + (i : Int) = l := ⟨_, rfl⟩
          obtain ⟨q, hq⟩ : ∃ q, cntUp (rU u ts) lo i = q := ⟨_, rfl⟩
          have HL : Hid (lo + (i : Int) = l ∧ cntUp (rU u ts) lo i = q) := ⟨hl, hq⟩
          rw [hq] at hcu
          rw [hl, hq]
          have hlb : -65536 ≤ l := by omega
          by_cases hlt : l < (h : Int)
          · have hiN : i + 1 ≤ N := by have := HN.out.1; omega
            clear hl hq
            cases hr : rU u ts l with
            | true =>
              go_wp2_with (first | (go_at_call 9; refine (cost_anyV ca cl cc cs _ _ HC.out.1 hcl LC.out).mono ?_; rintro e w' ⟨rfl, rfl⟩) | (go_at_call 11; refine (ref_anyU u ta tl tc ts _ _ HC.out.2.1 htl LT.out).mono ?_; rintro e w' ⟨rfl, rfl⟩))
              go_round
              case rel => exact ⟨i + 1, m, hiN, by rw [← HL.out.1]; go_num, by rw [cntUp_miss (by rw [HL.out.1]; exact hr), HL.out.2], rfl, by have := least_skip HLe.out (by rw [HL.out.1]; exact hr); rw [show lo + ((i + 1 : Nat) : Int) = lo + (i : Int) + 1 by omega]; exact this⟩
              case measure => simp [intOf]; omega
            | false =>
              by_cases hc : cF cs l < m
              · go_wp2_with (first | (go_at_call 9; refine (cost_anyV ca cl cc cs _ _ HC.out.1 hcl LC.out).mono ?_; rintro e w' ⟨rfl, rfl⟩) | (go_at_call 11; refine (ref_anyU u ta tl tc ts _ _ HC.out.2.1 htl LT.out).mono ?_; rintro e w' ⟨rfl, rfl⟩))
                go_round
                case rel => exact ⟨i + 1, _, hiN, by rw [← HL.out.1]; go_num, by rw [cntUp_hit (by rw [HL.out.1]; exact hr), HL.out.2]; go_num, rfl, by have := least_new HLe.out (by omega) (by rw [HL.out.1]; exact hr) (by rw [HL.out.1]; exact hc); rw [show lo + ((i + 1 : Nat) : Int) = lo + (i : Int) + 1 by omega, ← HL.out.1]; exact this⟩
                case measure => simp [intOf]; omega
              · go_wp2_with (first | (go_at_call 9; refine (cost_anyV ca cl cc cs _ _ HC.out.1 hcl LC.out).mono ?_; rintro e w' ⟨rfl, rfl⟩) | (go_at_call 11; refine (ref_anyU u ta tl tc ts _ _ HC.out.2.1 htl LT.out).mono ?_; rintro e w' ⟨rfl, rfl⟩))
                go_round
                case rel => exact ⟨i + 1, m, hiN, by rw [← HL.out.1]; go_num, by rw [cntUp_hit (by rw [HL.out.1]; exact hr), HL.out.2]; go_num, rfl, by have := least_keep HLe.out (by rw [HL.out.1]; omega); rw [show lo + ((i + 1 : Nat) : Int) = lo + (i : Int) + 1 by omega]; exact this⟩
                case measure => simp [intOf]; omega
          · have e : i = N := by have := HN.out; omega
            have HE : Hid (i = N) := e
            clear hl hq e
            go_wp2_with (first | (go_at_call 9; refine (cost_anyV ca cl cc cs _ _ HC.out.1 hcl LC.out).mono ?_; rintro e w' ⟨rfl, rfl⟩) | (go_at_call 11; refine (ref_anyU u ta tl tc ts _ _ HC.out.2.1 htl LT.out).mono ?_; rintro e w' ⟨rfl, rfl⟩))
            go_meet
            case rel =>
              have e := HE.out
              subst e
              exact ⟨m, rfl, by rw [HL.out.2], least_end HLe.out HN.out.1 HN.out.2, rfl⟩
      case rest =>
        obtain ⟨m, rfl, rfl, hle, rfl⟩ := hcut
        have HLe : Hid (Least (rU u ts) (cF cs) h lo h m) := hle
        clear hle
        go_upto_if 71 with (first | (go_at_call 9; refine (cost_anyV ca cl cc cs _ _ HC.out.1 hcl LC.out).mono ?_; rintro e w' ⟨rfl, rfl⟩) | (go_at_call 11; refine (ref_anyU u ta tl tc ts _ _ HC.out.2.1 htl LT.out).mono ?_; rintro e w' ⟨rfl, rfl⟩))
        go_cut [22, 23] from 66 to 90 (fun v22 _ w' => v22 = .int .i64 b ∧ wD = w')
        case first =>
          by_cases hct : cF cs h = m
          · have hcb : (cF cs h != m) = false := by simp [hct]
            have HE : Hid (cF cs h = m) := hct
            rw [hcb]
            clear hct hcb
            go_wp2_with (first | (go_at_call 9; refine (cost_anyV ca cl cc cs _ _ HC.out.1 hcl LC.out).mono ?_; rintro e w' ⟨rfl, rfl⟩) | (go_at_call 11; refine (ref_anyU u ta tl tc ts _ _ HC.out.2.1 htl LT.out).mono ?_; rintro e w' ⟨rfl, rfl⟩))
            go_meet
            case rel => exact ⟨by rw [← HB.out, best_top HLe.out (best_end _ _ HN.out.1 HN.out.2) HE.out], rfl⟩
          · have hcb : (cF cs h != m) = true := by simpa using hct
            have HE : Hid (cF cs h ≠ m) := hct
            rw [hcb]
            clear hct hcb
            go_wp2_with (first | (go_at_call 9; refine (cost_anyV ca cl cc cs _ _ HC.out.1 hcl LC.out).mono ?_; rintro e w' ⟨rfl, rfl⟩) | (go_at_call 11; refine (ref_anyU u ta tl tc ts _ _ HC.out.2.1 htl LT.out).mono ?_; rintro e w' ⟨rfl, rfl⟩))
            go_loop [22, 23] (fun v22 v23 => ∃ i wt, i ≤ N ∧ v23 = .int .i64 (lo + (i : Nat)) ∧ v22 = .int .i64 wt ∧ Want (rU u ts) (cF cs) h lo (lo + (i : Nat)) m wt) (fun _ v23 => ((h : Int) - intOf v23).toNat)
            case atStart => exact ⟨0, _, by omega, by go_num, rfl, by simpa using want_start _ _ _ _ _⟩
            case round =>
              obtain ⟨i, wt, hi, rfl, rfl, hwa⟩ := hrel
              have HW : Hid (Want (rU u ts) (cF cs) h lo (lo + (i : Nat)) m wt) := hwa
              clear hwa
              obtain ⟨l, hl⟩ : ∃ l, lo + (i : Int) = l := ⟨_, rfl⟩
              have HL : Hid (lo + (i : Int) = l) := hl
              rw [hl]
              have hlb : -65536 ≤ l := by omega
              by_cases hlt : l < (h : Int)
              · have hiN : i + 1 ≤ N := by have := HN.out.1; omega
                clear hl
                cases hr : rU u ts l with
                | true =>
                  go_wp2_with (first | (go_at_call 9; refine (cost_anyV ca cl cc cs _ _ HC.out.1 hcl LC.out).mono ?_; rintro e w' ⟨rfl, rfl⟩) | (go_at_call 11; refine (ref_anyU u ta tl tc ts _ _ HC.out.2.1 htl LT.out).mono ?_; rintro e w' ⟨rfl, rfl⟩))
                  go_round
                  case rel => exact ⟨i + 1, wt, hiN, by rw [← HL.out]; go_num, rfl, by have := want_keep HW.out (by rw [HL.out, hr]; simp); rw [show lo + ((i + 1 : Nat) : Int) = lo + (i : Int) + 1 by omega]; exact this⟩
                  case measure => simp [intOf]; omega
                | false =>
                  by_cases hc : cF cs l = m
                  · have hcl' : (cF cs l == m) = true := by simp [hc]
                    have HCm : Hid (cF cs l = m) := hc
                    clear hc
                    go_wp2_with (first | (go_at_call 9; refine (cost_anyV ca cl cc cs _ _ HC.out.1 hcl LC.out).mono ?_; rintro e w' ⟨rfl, rfl⟩) | (go_at_call 11; refine (ref_anyU u ta tl tc ts _ _ HC.out.2.1 htl LT.out).mono ?_; rintro e w' ⟨rfl, rfl⟩))
                    go_round
                    case rel => exact ⟨i + 1, l, hiN, by rw [← HL.out]; go_num, rfl, by have := want_new (h := (h : Int)) (lo := lo) (cur := l) (by have := HL.out; omega) hr HCm.out; rw [show lo + ((i + 1 : Nat) : Int) = l + 1 by have := HL.out; omega]; exact this⟩
                    case measure => simp [intOf]; omega
                  · have hcl' : (cF cs l == m) = false := by simpa using hc
                    have HCm : Hid (cF cs l ≠ m) := hc
                    clear hc
                    go_wp2_with (first | (go_at_call 9; refine (cost_anyV ca cl cc cs _ _ HC.out.1 hcl LC.out).mono ?_; rintro e w' ⟨rfl, rfl⟩) | (go_at_call 11; refine (ref_anyU u ta tl tc ts _ _ HC.out.2.1 htl LT.out).mono ?_; rintro e w' ⟨rfl, rfl⟩))
                    go_round
                    case rel => exact ⟨i + 1, wt, hiN, by rw [← HL.out]; go_num, rfl, by have := want_keep HW.out (by rw [HL.out]; exact fun hh => HCm.out hh.2); rw [show lo + ((i + 1 : Nat) : Int) = lo + (i : Int) + 1 by omega]; exact this⟩
                    case measure => simp [intOf]; omega
              · have e : i = N := by have := HN.out; omega
                have HEi : Hid (i = N) := e
                clear hl e
                go_wp2_with (first | (go_at_call 9; refine (cost_anyV ca cl cc cs _ _ HC.out.1 hcl LC.out).mono ?_; rintro e w' ⟨rfl, rfl⟩) | (go_at_call 11; refine (ref_anyU u ta tl tc ts _ _ HC.out.2.1 htl LT.out).mono ?_; rintro e w' ⟨rfl, rfl⟩))
                go_meet
                case rel =>
                  have e := HEi.out
                  subst e
                  exact ⟨by rw [← HB.out, best_want HLe.out (best_end _ _ HN.out.1 HN.out.2) HE.out (want_end HW.out HN.out.1 HN.out.2)], rfl⟩
        case rest =>
          obtain ⟨rfl, rfl⟩ := hcut
          have cK : wD.cell? ⟨w.heap.size + 1 + 1 + 1 + 1, 0, none⟩ = some (.int .i64 ((2 * cnt (rU u ts) h N : Nat) : Int)) := cell_of_one HS.out.cK
          have cO : wD.cell? ⟨w.heap.size + 1 + 1 + 1, 3, none⟩ = some (.slice (some ⟨w.heap.size + 1 + 1, 0, none⟩) h h) := HS.out.cO
          have cL : wD.cell? ⟨w.heap.size + 1 + 1 + 1 + 1 + 1, 0, none⟩ = some lv := cell_of_one HS.out.cL
          have hce := cnt_end (rU u ts) HN.out.2
          have hcu := cntUp_le (rU u ts) lo N
          rw [hce] at cK
          obtain ⟨q, hq⟩ : ∃ q, cntUp (rU u ts) lo N = q := ⟨_, rfl⟩
          rw [hq] at cK hcu
          rw [hq]
          have cK' : wD.cell? ⟨w.heap.size + 1 + 1 + 1 + 1, 0, none⟩ = some (.int .i64 (2 * (q : Int))) := by rw [cK]; go_num
          clear hq hce cK
          go_upto_if 98 with fail
          have HBel : Hid (Below w.heap.size w wD) := HS.out.below
          cases u with
          | false =>
            obtain ⟨ao, cp, hv⟩ := log_shape (show wD.ownsRow _ 3 1 lv ([] : List Int).length (([] : List Int).map (Value.int .i64)) from HS.out.own)
            simp only [List.length_nil] at hv
            subst hv
            clear HS LC LT HC HOk HB HLe
            go_wp2
            go_ret
            exact ⟨rfl, HBel.out⟩
          | true =>
            have hown : wD.ownsRow _ 3 1 lv (logOf h N).length ((logOf h N).map (Value.int .i64)) := HS.out.own
            obtain ⟨ao, cp, hv⟩ := log_shape hown
            rw [logOf_len] at hv
            have HCe : Hid (∀ i, i < N → ∃ g, ao = some ⟨g, 0, none⟩ ∧ wD.cell? ⟨g, i, none⟩ = some (.int .i64 ((h : Int) - 1 - i))) := fun i hi => by
              rw [hv, logOf_len] at hown
              rcases hown.2 with ⟨_, h0⟩ | ⟨g, cap, cur, e1, _⟩
              · omega
              · simp only [Value.slice.injEq] at e1
                obtain ⟨rfl, _, rfl⟩ := e1
                refine ⟨g, rfl, ?_⟩
                rw [hown.cellAt i (by omega), List.getElem?_map, logOf_get _ _ _ hi]; rfl
            subst hv
            clear HS LC LT HC HOk HB HLe hown
            go_wp2_with fail
            go_loop [24, 25] (fun v24 v25 => ∃ i : Nat, i ≤ N ∧ v24 = .int .i64 i ∧ v25 = .int .i64 ((h : Int) - 1 - i)) (fun _ v25 => (intOf v25 - lo + 1).toNat)
            case atStart => exact ⟨0, by omega, rfl, by go_num⟩
            case round =>
              obtain ⟨i, hi, rfl, rfl⟩ := hrel
              by_cases hge : lo ≤ (h : Int) - 1 - i
              · have hiN : i < N := by have := HN.out.1; omega
                obtain ⟨g, rfl, hcg⟩ := HCe.out i hiN
                have hil : ¬ (N : Int) ≤ (i : Int) := by omega
                have hil2 : (i : Int) < (N : Int) := by omega
                obtain ⟨l, hl⟩ : ∃ l, (h : Int) - 1 - i = l := ⟨_, rfl⟩
                have HL : Hid ((h : Int) - 1 - i = l) := hl
                have hlb : l ≤ 300 := by omega
                rw [hl] at hge hcg ⊢
                clear hl
                go_wp2
                go_round
                case rel => exact ⟨i + 1, by omega, by go_num, by rw [← HL.out]; go_num⟩
                case measure => simp [intOf]; omega
              · have e : i = N := by have := HN.out; omega
                subst e
                go_wp2
                go_ret
                exact ⟨rfl, HBel.out⟩
end Go.Proofs.Ybulkdhek
