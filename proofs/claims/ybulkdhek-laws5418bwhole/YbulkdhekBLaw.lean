import Derived.Test.YbulkdhekBFinal
import Derived.Handy
import Derived.Deep.CutBlock
import Derived.Deep.DeepCutAuto
import Derived.Deep.RegionHeld3
import Derived.Deep.AppendLies
import Derived.Deep.RegionLaw
namespace Go.Proofs.Ybulkdhek
open Go.RowKit
set_option linter.unusedVariables false

set_option maxRecDepth 100000 in
set_option maxHeartbeats 4000000 in
theorem law_main (pa : Option Addr) (pl pc n : Nat) (zs : List Int) (sRaw e fRaw : Int) (ma : Option Addr) (ml mc : Nat) (ms : List Bool) (w : World)
    (hs0 : 0 ≤ sRaw) (hf0 : 0 ≤ fRaw) (hpl : pl ≤ 65536) (hml : ml ≤ 65536) (hn1 : 1 ≤ n) (hn2 : n ≤ 65536) (hn3 : pl = 0 → n = 1) (hn4 : 1 ≤ pl → n = pl)
    (hzl : zs.length = pl) (hzb : ∀ j, 0 ≤ zs.getD j 0 ∧ zs.getD j 0 ≤ 255) (hz : Lies w pa pl (fun j => .int .u8 (zs.getD j 0))) (hm : Lies w ma ml (fun j => .bool (ms.getD j false))) :
    Calls Yba.prog 3 #[.slice pa pl pc, .int .u64 sRaw, .int .i64 e, .int .u64 fRaw, .slice ma ml mc] w fun e w' => e = .returned (.bool true) ∧ Below w.heap.size w w' := by
  obtain ⟨i0, hi, hz0, hz1, hz2⟩ := info_parts info3
  have hg1 : ¬ (65536 : Int) < (pl : Int) := by omega
  have hg2 : ¬ (65536 : Int) < (ml : Int) := by omega
  have HZ : Hid (Lies w pa pl (fun j => .int .u8 (zs.getD j 0))) := hz
  have HM : Hid (Lies w ma ml (fun j => .bool (ms.getD j false))) := hm
  have HN : Hid ((pl = 0 → n = 1) ∧ (1 ≤ pl → n = pl)) := ⟨hn3, hn4⟩
  have HB : Hid (∀ j, 0 ≤ zs.getD j 0 ∧ zs.getD j 0 ≤ 255) := hzb
  clear hz hm hn3 hn4 hzb
  go_enter Yba.func3, Yba.ntmps3
  go_upto_if 42 with fail
  go_cut [11] from 31 to 44 (fun v w' => v = .int .i64 (n : Int) ∧ w = w')
  case first =>
    by_cases h : pl = 0
    · have h' : ((pl : Int) == 0) = true := by simp [h]
      have hn := HN.out.1 h
      have H : Hid (n = 1) := hn
      clear h hn
      go_wp2
      go_meet
      case rel => exact ⟨by rw [H.out]; rfl, rfl⟩
    · have h' : ((pl : Int) == 0) = false := by simp; omega
      have hn := HN.out.2 (by omega)
      have H : Hid (n = pl) := hn
      clear h hn
      go_wp2
      go_meet
      case rel => exact ⟨by rw [H.out], rfl⟩
  case rest =>
    obtain ⟨rfl, rfl⟩ := hcut
    go_upto_block 0 with (at_make; refine wpList_make_full _ rfl _ _ 25 rfl w.heap.size 3 i0 (.int .i64 0) 1 Yba.underlying25 hi hz0 hz1 _ _ _ _ n rfl rfl rfl rfl (by rw [hz2]; omega) (by simp [maxLen]; omega) (Nat.le_refl _) ?_; intro w1 ho1 hg1')
    have hP0 : w.heap.size < w1.heap.size := ((ho1.lt w.heap.size rfl).2)
    have hR0 := row_made ho1 hP0
    have hK0 : Kept (fun k => False) w w1 := (Kept.refl _ w).grown hg1' (fun k h => by simp at h)
    clear ho1 hg1'
    go_cut [13] from 45 to 62 (fun _ w' => Row w' w.heap.size n (fun j => .int .i64 (fp zs j)) ∧ Kept (fun k => False) w w')
    case first =>
      go_wp2
      go_loopw [13] (fun v wr => ∃ k : Nat, k ≤ n ∧ v = .int .i64 k ∧ Row wr w.heap.size n (fun j => .int .i64 (if j < k then (fp zs j : Int) else 0)) ∧ Kept (fun k => False) w wr) (fun v _ => n - (intOf v).toNat)
      case atStart => exact ⟨0, by omega, rfl, hR0.congr (fun j hj => by simp), hK0⟩
      case round =>
        obtain ⟨k, hk, rfl, hrow, hkept⟩ := hrel
        by_cases hlt : k < n
        · by_cases hkp : k < pl
          · obtain ⟨b, o, rfl, hb, hc⟩ := HZ.out k hkp
            have hc1 : wr.cell? ⟨b, o + k, none⟩ = some (.int .u8 (zs.getD k 0)) := (World.cell?_of_block (w := w) (a := ⟨b, o + k, none⟩) (hkept.block b hb (by simp))).trans (hc k hkp)
            have hw1 := hrow.cell k hlt
            have hw2 := hrow.free k
            obtain ⟨hb1, hb2⟩ := HB.out k
            have R : Hid (Row wr w.heap.size n (fun j => .int .i64 (if j < k then (fp zs j : Int) else 0)) ∧ Kept (fun k => False) w wr) := ⟨hrow, hkept⟩
            obtain ⟨z, hzz⟩ : ∃ z, zs.getD k 0 = z := ⟨_, rfl⟩
            have HZZ : Hid (zs.getD k 0 = z) := hzz
            rw [hzz] at hc1 hb1 hb2
            clear hrow hkept hc hzz
            go_wp2
            go_roundw
            case rel => exact ⟨k + 1, by omega, by go_num, rel1_hit R.out.1 hb1 HZZ.out, R.out.2.setCell (fun h => absurd h (Nat.lt_irrefl _)) _⟩
            case measure => simp [intOf]; omega
          · have hkp' : ¬ ((k : Int) < (pl : Int)) := by omega
            have R : Hid (Row wr w.heap.size n (fun j => .int .i64 (if j < k then (fp zs j : Int) else 0)) ∧ Kept (fun k => False) w wr) := ⟨hrow, hkept⟩
            clear hrow hkept
            go_wp2
            go_roundw
            case rel => exact ⟨k + 1, by omega, by go_num, rel1_miss R.out.1 (by omega), R.out.2⟩
            case measure => simp [intOf]; omega
        · have R : Hid (Row wr w.heap.size n (fun j => .int .i64 (if j < k then (fp zs j : Int) else 0)) ∧ Kept (fun k => False) w wr) := ⟨hrow, hkept⟩
          clear hrow hkept
          go_wp2
          go_meet
          case rel => exact ⟨R.out.1.congr (fun j hj => by rw [if_pos (by omega)]), R.out.2⟩
    case rest =>
      obtain ⟨hrow, hkept⟩ := hcut
      have HR : Hid (Row wc w.heap.size n (fun j => .int .i64 (fp zs j)) ∧ Kept (fun k => False) w wc) := ⟨hrow, hkept⟩
      clear hrow hkept hK0 hR0 hP0 w1 hz0 hz1 hz2 hi i0
      go_upto_region 12 with fail
      go_cut [14] from 63 to 67 (fun v w' => ∃ X E O B, v = .pointer (some ⟨X, 0, none⟩) ∧ Built w w' w.heap.size X E O B n 0 0 zs (fun _ => .slice none 0 0))
      case first =>
        have hm27 : ∀ w, (Instr.makeSlice 27 (.int .i64 n) (.int .i64 n)).run Yba.prog w = .ok (.slice (some ⟨w.heap.size, 0, none⟩) n n) (w.alloc (.cells (madeCells #[.int .i64 0, .int .i64 0, .int .u8 0] (n * 3)) 35)) := fun w => make27 w n hn2
        have hm28 : ∀ w, (Instr.makeSlice 28 (.int .i64 4) (.int .i64 4)).run Yba.prog w = .ok (.slice (some ⟨w.heap.size, 0, none⟩) 4 4) (w.alloc (.cells #[.slice none 0 0, .slice none 0 0, .slice none 0 0, .slice none 0 0] 25)) := fun w => make28 w
        have hlt := Nat.lt_of_lt_of_le HR.out.1.lt (Nat.le_refl _)
        go_region
        all_goals go_wp2
        all_goals go_meet
        · exact ⟨_, wc.heap.size, wc.heap.size + 1, wc.heap.size + 3, rfl, built_start (wc := wc) HR.out.1 HR.out.2 (Nat.le_refl _) (by omega) (by omega) (by omega) (by omega) (by omega) (by omega) (heap3_0 wc _ _ _) (heap3_1 wc _ _ _) (heap3_2 wc _ _ _) ((((Kept.refl _ _).alloc _).alloc _).alloc _).drew (by simp)⟩
        · exact ⟨_, wc.heap.size + 1, wc.heap.size, wc.heap.size + 3, rfl, built_start (wc := wc) HR.out.1 HR.out.2 (Nat.le_refl _) (by omega) (by omega) (by omega) (by omega) (by omega) (by omega) (heap3_1 wc _ _ _) (heap3_0 wc _ _ _) (heap3_2 wc _ _ _) ((((Kept.refl _ _).alloc _).alloc _).alloc _).drew (by simp)⟩
      case rest =>
        obtain ⟨X, E, O, B, rfl, hbuilt⟩ := hcut
        clear HR
        go_upto_block 2 with fail
        go_cut [15, 16] from 68 to 109 (fun _ _ w' => ∃ v, Built w w' w.heap.size X E O B n n n zs v)
        case first =>
          go_wp2_with fail
          go_loopw [15] (fun i wr => ∃ k v, k ≤ n ∧ i = .int .i64 (k : Nat) ∧ Built w wr w.heap.size X E O B n k k zs v) (fun i _ => n - (intOf i).toNat)
          case atStart => exact ⟨0, _, by omega, rfl, hbuilt⟩
          case round =>
            clear hbuilt
            obtain ⟨k, v, hk, rfl, hb⟩ := hrel
            by_cases hlt : k < n
            · go_upto_block 3 with fail
              go_cut [16] from 68 to 109 (fun _ w' => ∃ v', Built w w' w.heap.size X E O B n (k + 1) (k + 1) zs v')
              case first =>
                --DEV1
                have hp4 := fp_lt zs k
                have c1 := hb.pr.cell k hlt
                have c2 := hb.x2
                have c3 := hb.x3
                have c4 := hb.on.cell _ hp4
                obtain ⟨F, hF, hF'⟩ := hb.ev
                clear hF'
                have d0 := hF.cell (k * 3) (by omega)
                have d1 := hF.cell (k * 3 + 1) (by omega)
                have d2 := hF.cell (k * 3 + 2) (by omega)
                have f0 := hF.free (k * 3)
                have f1 := hF.free (k * 3 + 1)
                have f2 := hF.free (k * 3 + 2)
                have HBu : Hid (Built w wr w.heap.size X E O B n k k zs v) := hb
                clear hb hF
                obtain ⟨p, hp⟩ : ∃ p, fp zs k = p := ⟨_, rfl⟩
                rw [hp] at hp4 c1 c4
                have HP : Hid (fp zs k = p) := hp
                clear hp
                have hL : (pos (fp zs) p k).length ≤ k := pos_len _ _ _
                obtain ⟨ao, cp, hv⟩ := owns_shape (HBu.out.lists p hp4)
                rw [hv] at c4
                obtain ⟨L, hLL⟩ : ∃ L, (pos (fp zs) p k).length = L := ⟨_, rfl⟩
                rw [hLL] at c4 hL
                have HV : Hid (v p = .slice ao (pos (fp zs) p k).length cp ∧ (pos (fp zs) p k).length = L) := ⟨hv, hLL⟩
                clear hv hLL
                have hp4' : (p : Int) < 4 := by omega
                have hkn' : (k : Int) < (n : Int) := by omega
                obtain ⟨nPX, nPE, nPO, nXE, nXO, nEO⟩ := HBu.out.ne
                have nEX : E ≠ X := fun h => nXE h.symm
                have nOE : O ≠ E := fun h => nEO h.symm
                go_upto_region 17 with fail
                go_cut [] from 68 to 109 (fun w' => Built w w' w.heap.size X E O B n k (k + 1) zs v)
                case first =>
                  go_region_held3 (fun w' => w'.cell? ⟨X, 2, none⟩ = some (.slice (some ⟨E, 0, none⟩) n n) ∧ w'.cell? ⟨X, 3, none⟩ = some (.slice (some ⟨O, 0, none⟩) 4 4) ∧ w'.cell? ⟨O, p, none⟩ = some (.slice ao L cp)) (go_keep) (fail)
                  go_wp2
                  go_meet
                  case rel => exact built_event HBu.out hlt HP.out HV.out.2 (by first | rfl | (rw [IntKind.wrap_i64]; omega))
                case rest =>
                  clear HBu c1 c2 c3 c4 d0 d1 d2 f0 f1 f2 F
                  have hcx := hcut.x3
                  have hco := hcut.on.cell p hp4
                  have hcf := hcut.on.free p
                  rw [HV.out.1, HV.out.2] at hco
                  have hXl : X < wc.heap.size := Nat.lt_of_lt_of_le hcut.X1.2 hcut.B1
                  have hOl : O < wc.heap.size := hcut.on.lt
                  have hOX : O ≠ X := fun h => nXO h.symm
                  obtain ⟨i0, hi, hz0, hz1, hz2⟩ := info_parts info3
                  have HO : Hid (wc.ownsRow B 3 1 (.slice ao L cp) L ((pos (fp zs) p k).map fun (j : Nat) => .int .i64 j)) := by
                    have := hcut.lists p hp4
                    rw [HV.out.1, HV.out.2] at this
                    exact this
                  have HBl : Hid (B ≤ wc.heap.size ∧ O < B ∧ X < B) := ⟨hcut.B1, hcut.O1.2, hcut.X1.2⟩
                  have HC : Hid (Built w wc w.heap.size X E O B n k (k + 1) zs v) := hcut
                  clear hcut
                  go_upto_region 18 with fail
                  go_region_law ((refine step_append_lies _ rfl (.tmp 105) (.tmp 107) 25 rfl B 3 i0 (.int .i64 0) 1 8 Yba.underlying25 hi hz0 hz1 hz2 rfl (by decide) (.slice ao L cp) L ((pos (fp zs) p k).map fun (j : Nat) => .int .i64 j) (by simp [Act.eval]) (HO.out.alloc _).drew ⟨wc.heap.size, 0, none⟩ 1 1 [.int .i64 k] (by simp [Act.eval]) rfl (cell_one_new _ _ _) (by intro u hu; simp at hu; subst hu; rfl) (by decide) (by simp [maxLen]; omega) (by omega) (by have := HBl.out.1; simp; omega) (wc.heap.size + 1) (by simp) ?_; intro g cap w1 hown hgrow hat hlt'; obtain ⟨e1, e2, e3⟩ := append_behind HO.out hgrow HBl.out (by simpa [go_sem, hXl] using hcx) (by simpa [go_sem, hOl] using hco) (by simpa [go_sem, hOl] using hcf); have HG : Hid (w1.ownsRow B 3 1 (.slice (some ⟨g, 0, none⟩) (L + 1) cap) (L + 1) (((pos (fp zs) p k).map fun (j : Nat) => .int .i64 j) ++ [.int .i64 k]) ∧ _) := ⟨hown, hgrow⟩; clear hown hgrow hat))
                  all_goals go_wp2
                  all_goals go_meet
                  all_goals exact ⟨_, built_append HC.out hp4 HP.out HV.out.2 HG.out.1 (by rw [HV.out.1, HV.out.2]; exact HG.out.2)⟩
                --DEV1END
              case rest =>
                clear hb v
                obtain ⟨v, hb⟩ := hcut
                have HBu : Hid (Built w wc w.heap.size X E O B n (k + 1) (k + 1) zs v) := hb
                clear hb
                go_wp2
                go_roundw
                case rel => exact ⟨k + 1, v, by omega, by go_num, HBu.out⟩
                case measure => simp [intOf]; omega
            · have HBu : Hid (Built w wr w.heap.size X E O B n k k zs v) := hb
              clear hb
              go_wp2
              go_meet
              case rel =>
                have e : n = k := by omega
                exact ⟨v, by have := HBu.out; rw [← e] at this; exact this⟩
        case rest =>
          obtain ⟨v, hb⟩ := hcut
          clear hbuilt
          obtain ⟨wA, hwA⟩ : ∃ x, x = wc := ⟨_, rfl⟩
          subst hwA
          have HBu : Hid (Built w wA w.heap.size X E O B n n n zs v) := hb
          clear hb
          go_upto_region 19 with fail
          obtain ⟨s, hsn, hs⟩ : ∃ s : Nat, s < n ∧ sRaw.tmod (n : Int) = (s : Int) := nat_tmod hs0 (by omega)
          obtain ⟨first, hfn, hf⟩ : ∃ s : Nat, s < n + 1 ∧ fRaw.tmod ((n + 1 : Nat) : Int) = (s : Int) := nat_tmod hf0 (by omega)
          have hf' : fRaw.tmod ((n : Int) + 1) = (first : Int) := hf
          obtain ⟨m, hm⟩ : ∃ m, first + m = n := ⟨n - first, by omega⟩
          have hnm : (n : Int) - (first : Int) = (m : Int) := by omega
          have hm36 : ∀ w, (Instr.makeSlice 36 (.int .i64 m) (.int .i64 m)).run Yba.prog w = .ok (.slice (some ⟨w.heap.size, 0, none⟩) m m) (w.alloc (.cells (madeCells #[.slice none 0 0] m) 38)) := fun w => make36 w m (by omega)
          go_upto_block 4 with fail
          obtain ⟨wq, hwq⟩ : ∃ wq, wq = wA.alloc (.cells (madeCells #[.slice none 0 0] m) 38) := ⟨_, rfl⟩
          have HS : Hid (Sent wq wq wA.heap.size m 0 (mk ms ml) 2 100 (fun _ => 0)) := by subst hwq; exact sent_start wA m _ _ _
          have HK : Hid (Kept (fun b => False) wA wq ∧ wq.heap.size = wA.heap.size + 1) := by subst hwq; exact ⟨(Kept.refl _ _).alloc _, by simp⟩
          rw [← hwq]
          clear hwq
          go_cut [20] from 125 to 151 (fun _ w' => ∃ sb, Sent wq w' wA.heap.size m m (mk ms ml) 2 100 sb)
          case first =>
            go_wp2_with fail
            go_loopw [20] (fun i wr => ∃ k sb, k ≤ m ∧ i = .int .i64 (k : Nat) ∧ Sent wq wr wA.heap.size m k (mk ms ml) 2 100 sb) (fun i _ => m - (intOf i).toNat)
            case atStart => exact ⟨0, _, by omega, rfl, HS.out⟩
            case round =>
              obtain ⟨k, sb, hk, rfl, hs'⟩ := hrel
              have HR : Hid (Sent wq wr wA.heap.size m k (mk ms ml) 2 100 sb) := hs'
              have hc1 := hs'.row.cell k
              have hc2 := hs'.row.free k
              by_cases hlt : k < m
              · by_cases hl0 : ml = 0
                · have hd : decide ((0 : Int) < (ml : Int)) = false := by simp; omega
                  have hd' : ¬ 0 < ml := by omega
                  clear hs' hl0
                  go_wp2
                  go_roundw
                  case rel => exact ⟨k + 1, sb, by omega, by go_num, sent_miss HR.out (by simp [mk]; omega)⟩
                  case measure => simp [intOf]; omega
                · have hl1 : 0 < ml := by omega
                  obtain ⟨b, o, rfl, hb, hc⟩ := HM.out 0 hl1
                  obtain ⟨r, hr, hr1⟩ : ∃ r : Nat, r < ml ∧ (k : Int).tmod (ml : Int) = (r : Int) := nat_tmod (by omega) hl1
                  have hr2 : (k : Int) % (ml : Int) = (r : Int) := by rw [← hr1, Int.tmod_eq_emod_of_nonneg (by omega)]
                  have HRR : Hid (k % ml = r) := by have := hr2; show k % ml = r; omega
                  have hbq : b < wq.heap.size := by have := HK.out.1.size; have := HBu.out.kept.size; omega
                  have hbS : b ≠ wA.heap.size := by have := HBu.out.kept.size; omega
                  have hcr : wr.cell? ⟨b, o + r, none⟩ = some (.bool (ms.getD r false)) := by
                    refine (World.cell?_of_block (w := wq) (a := ⟨b, o + r, none⟩) (hs'.kept.block b hbq hbS)).trans ?_
                    refine (World.cell?_of_block (w := wA) (a := ⟨b, o + r, none⟩) (HK.out.1.block b (by have := HBu.out.kept.size; omega) (by simp))).trans ?_
                    exact (World.cell?_of_block (w := w) (a := ⟨b, o + r, none⟩) (HBu.out.kept.block b hb (by simp))).trans (hc r hr)
                  clear hs' hc
                  obtain ⟨tt, htt⟩ : ∃ tt, ms.getD r false = tt := ⟨_, rfl⟩
                  have HT : Hid (ms.getD r false = tt) := htt
                  rw [htt] at hcr
                  clear htt
                  have hc1' : wr.cell? ⟨wA.heap.size, k, none⟩ = some (.slice none 0 0) := by simpa using hc1 hlt
                  have hSl : wA.heap.size < wr.heap.size := HR.out.row.lt
                  clear hc1
                  cases tt with
                  | true =>
                    go_wp2
                    go_roundw
                    case rel => exact ⟨k + 1, _, by omega, by go_num, sent_hit HR.out (by simp [mk, HRR.out]; exact ⟨hl1, by simpa using HT.out⟩) rfl⟩
                    case measure => simp [intOf]; omega
                  | false =>
                    go_wp2
                    go_roundw
                    case rel => exact ⟨k + 1, sb, by omega, by go_num, sent_miss HR.out (by simp [mk, HRR.out]; intro _; simpa using HT.out)⟩
                    case measure => simp [intOf]; omega
              · clear hs'
                go_wp2
                go_meet
                case rel =>
                  have e : k = m := by omega
                  exact ⟨sb, by have := HR.out; rw [e] at this; exact this⟩
          case rest =>
            clear hm36 HS hs hf hf'
            obtain ⟨sb, hsent⟩ := hcut
            obtain ⟨wB, hwB⟩ : ∃ x, x = wc := ⟨_, rfl⟩
            subst hwB
            have HSe : Hid (Sent wq wB wA.heap.size m m (mk ms ml) 2 100 sb) := hsent
            clear hsent
            have hm36 := make36_4
            go_upto_block 6 with fail
            obtain ⟨wr4, hwr4⟩ : ∃ wq, wq = wB.alloc (.cells (madeCells #[.slice none 0 0] 4) 38) := ⟨_, rfl⟩
            have HS : Hid (Sent wr4 wr4 wB.heap.size 4 0 (fun _ => true) 1 1000 (fun _ => 0)) := by subst hwr4; exact sent_start wB 4 _ _ _
            have HK4 : Hid (Kept (fun b => False) wB wr4 ∧ wr4.heap.size = wB.heap.size + 1) := by subst hwr4; exact ⟨(Kept.refl _ _).alloc _, by simp⟩
            rw [← hwr4]
            clear hwr4
            go_cut [22] from 153 to 163 (fun _ w' => ∃ lb, Sent wr4 w' wB.heap.size 4 4 (fun _ => true) 1 1000 lb)
            case first =>
              go_wp2_with fail
              go_loopw [22] (fun i wr => ∃ k lb, k ≤ 4 ∧ i = .int .i64 (k : Nat) ∧ Sent wr4 wr wB.heap.size 4 k (fun _ => true) 1 1000 lb) (fun i _ => 4 - (intOf i).toNat)
              case atStart => exact ⟨0, _, by omega, rfl, HS.out⟩
              case round =>
                obtain ⟨k, lb, hk, rfl, hs'⟩ := hrel
                have HR : Hid (Sent wr4 wr wB.heap.size 4 k (fun _ => true) 1 1000 lb) := hs'
                have hc2 := hs'.row.free k
                by_cases hlt : k < 4
                · have hc1 : wr.cell? ⟨wB.heap.size, k, none⟩ = some (.slice none 0 0) := by simpa using hs'.row.cell k hlt
                  have hlt' : (k : Int) < 4 := by omega
                  have hSl : wB.heap.size < wr.heap.size := hs'.row.lt
                  clear hs'
                  go_wp2
                  go_roundw
                  case rel => exact ⟨k + 1, _, by omega, by go_num, sent_hit HR.out rfl rfl⟩
                  case measure => simp [intOf]; omega
                · have hlt' : ¬ (k : Int) < 4 := by omega
                  clear hs'
                  go_wp2
                  go_meet
                  case rel =>
                    have e : k = 4 := by omega
                    exact ⟨lb, by have := HR.out; rw [e] at this; exact this⟩
            case rest =>
              obtain ⟨lb, hlat⟩ := hcut
              obtain ⟨wD, hwD⟩ : ∃ x, x = wc := ⟨_, rfl⟩
              subst hwD
              have HLa : Hid (Sent wr4 wD wB.heap.size 4 4 (fun _ => true) 1 1000 lb) := hlat
              clear hlat hm36 HS
              go_upto_region 36 with fail
              have HF : Hid (Final w (((wD.alloc (.cells #[.pointer (some ⟨X, 0, none⟩), .nilFunc, .nilFunc, .nilFunc, .int .i64 0, .int .i64 0, .slice (some ⟨wB.heap.size, 0, none⟩) 4 4, .slice (some ⟨wA.heap.size, 0, none⟩) m m, .slice none 0 0, .slice none 0 0] 45)).alloc (.cells #[.slice none 0 0] 25)).alloc (.cells #[.slice none 0 0] 38)) w.heap.size X E O wA.heap.size wB.heap.size wD.heap.size n m B zs (mk ms ml) v sb lb) := final_of HBu.out HK.out HSe.out HK4.out HLa.out
              generalize (((wD.alloc (.cells #[.pointer (some ⟨X, 0, none⟩), .nilFunc, .nilFunc, .nilFunc, .int .i64 0, .int .i64 0, .slice (some ⟨wB.heap.size, 0, none⟩) 4 4, .slice (some ⟨wA.heap.size, 0, none⟩) m m, .slice none 0 0, .slice none 0 0] 45)).alloc (.cells #[.slice none 0 0] 25)).alloc (.cells #[.slice none 0 0] 38)) = W at HF ⊢
              clear HBu HK HSe HK4 HLa
              obtain ⟨nx, hnx⟩ := next_is (fp zs) n s hsn
              have HX : Hid (NextIs (fp zs) n s nx) := hnx
              clear hnx
              go_cut [27] from 170 to 175 (fun got w' => Outcome W w' (mk ms ml) s first (fp zs s) wD.heap.size e nx sb lb got)
              case first =>
                go_wp2_with fail
                refine (words_final HF.out s first e nx hn2 hsn hm HX.out).mono ?_
                rintro e' w' ⟨got, rfl, hout⟩
                have HOut : Hid (Outcome W w' (mk ms ml) s first (fp zs s) wD.heap.size e nx sb lb got) := hout
                clear hout
                go_wp2
                go_meet
                case rel => exact HOut.out
              case rest =>
                obtain ⟨wE, hwE⟩ : ∃ x, x = wc := ⟨_, rfl⟩
                subst hwE
                have HOut : Hid (Outcome W wE (mk ms ml) s first (fp zs s) wD.heap.size e nx sb lb u27) := hcut
                clear hcut
                have HKE : Hid (Kept (fun k => k = wD.heap.size + 1 ∨ k = wD.heap.size + 1 + 1) W wE) := by
                  rcases HOut.out with ⟨_, _, _, h⟩ | ⟨_, _, _, h⟩ | ⟨_, _, _, q, gr, cp, _, _, _, _, _, h⟩
                  · exact h.mono (fun _ _ h => h.elim)
                  · exact h.mono (fun _ _ h => h.elim)
                  · exact h
                have hpr : Row wE w.heap.size n (fun j => .int .i64 (fp zs j)) := HF.out.pr.kept HKE.out (by have := HF.out.lts; omega)
                have HPr : Hid (Row wE w.heap.size n (fun j => .int .i64 (fp zs j))) := hpr
                have hps := hpr.cell s hsn
                have hp4 := fp_lt zs s
                clear hpr
                obtain ⟨p, hp⟩ : ∃ p, fp zs s = p := ⟨_, rfl⟩
                have HP : Hid (fp zs s = p) := hp
                rw [hp] at hps hp4
                clear hp
                go_upto_block 8 with fail
                go_cut [29, 30] from 182 to 193 (fun v29 _ w' => v29 = .int .i64 nx ∧ wE = w')
                case first =>
                  go_wp2
                  go_loop [29, 30] (fun v29 v30 => ∃ j : Nat, s < j ∧ j ≤ n ∧ v29 = .int .i64 (-1) ∧ v30 = .int .i64 j ∧ ∀ i, s < i → i < j → fp zs i ≠ fp zs s) (fun _ v30 => n - (intOf v30).toNat)
                  case atStart => exact ⟨s + 1, by omega, by omega, rfl, by go_num, fun i a b => by omega⟩
                  case round =>
                    obtain ⟨j, hsj, hjn, rfl, rfl, hbet⟩ := hrel
                    have HBe : Hid (∀ i, s < i → i < j → fp zs i ≠ fp zs s) := hbet
                    clear hbet
                    by_cases hlt : j < n
                    · have hpj := HPr.out.cell j hlt
                      by_cases heq : fp zs j = p
                      · rw [heq] at hpj
                        have HE : Hid (fp zs j = p) := heq
                        clear heq
                        go_wp2
                        go_meet
                        case rel => exact ⟨by rw [next_hit HX.out hsj hlt (HE.out.trans HP.out.symm) HBe.out], rfl⟩
                      · have hne : ((fp zs j : Int) == (p : Int)) = false := by simp; omega
                        obtain ⟨r, hr⟩ : ∃ r, fp zs j = r := ⟨_, rfl⟩
                        have HNe : Hid (fp zs j ≠ p) := heq
                        rw [hr] at hpj hne
                        clear hr heq
                        go_wp2
                        go_round
                        case rel => exact ⟨j + 1, by omega, by omega, rfl, by go_num, fun i a b => by
                            by_cases e : i = j
                            · subst e; rw [HP.out]; exact HNe.out
                            · exact HBe.out i a (by omega)⟩
                        case measure => simp [intOf]; omega
                    · go_wp2
                      go_meet
                      case rel => exact ⟨by rw [next_none HX.out (fun i a b => HBe.out i a (by omega))], rfl⟩
                case rest =>
                  obtain ⟨rfl, rfl⟩ := hcut
                  obtain ⟨bA, hbA⟩ : ∃ bA, (decide (first ≤ s) && mk ms ml (s - first)) = bA := ⟨_, rfl⟩
                  have HA : Hid ((decide (first ≤ s) && mk ms ml (s - first)) = bA) := hbA
                  clear hbA
                  go_upto_region 44 with fail
                  go_cut [212] from 194 to 212 (fun t w' => t = .bool bA ∧ wE = w')
                  case first =>
                    by_cases hfs : first ≤ s
                    · have hfs' : (first : Int) ≤ (s : Int) := by omega
                      by_cases hl0 : ml = 0
                      · have hd' : ¬ (0 : Nat) < ml := by omega
                        have hd'' : ¬ (0 : Int) < (ml : Int) := by omega
                        clear hl0
                        go_wp2
                        go_meet
                        case rel => exact ⟨by rw [← HA.out]; simp [mk, hd'], rfl⟩
                      · have hl1 : 0 < ml := by omega
                        obtain ⟨b, o, rfl, hb, hc⟩ := HM.out 0 hl1
                        obtain ⟨d, hd⟩ : ∃ d, s - first = d := ⟨_, rfl⟩
                        have hsd : (s : Int) - (first : Int) = (d : Int) := by omega
                        obtain ⟨r, hr, hr1⟩ : ∃ r : Nat, r < ml ∧ (d : Int).tmod (ml : Int) = (r : Int) := nat_tmod (by omega) hl1
                        have hr2 : (d : Int) % (ml : Int) = (r : Int) := by rw [← hr1, Int.tmod_eq_emod_of_nonneg (by omega)]
                        have HRR : Hid (d % ml = r ∧ s - first = d) := ⟨by have := hr2; omega, hd⟩
                        clear hd
                        have hcr : wE.cell? ⟨b, o + r, none⟩ = some (.bool (ms.getD r false)) := by
                          refine (World.cell?_of_block (w := W) (a := ⟨b, o + r, none⟩) (HKE.out.block b (by have := HF.out.kept.size; omega) (by have := HF.out.lts; omega))).trans ?_
                          exact (World.cell?_of_block (w := w) (a := ⟨b, o + r, none⟩) (HF.out.kept.block b hb (by simp))).trans (hc r hr)
                        clear hc hl0
                        obtain ⟨tt, htt⟩ : ∃ tt, ms.getD r false = tt := ⟨_, rfl⟩
                        have HT : Hid (ms.getD r false = tt) := htt
                        rw [htt] at hcr
                        clear htt
                        go_wp2
                        go_meet
                        case rel => exact ⟨by rw [← HA.out, HRR.out.2]; unfold mk; rw [HRR.out.1, HT.out]; simp [hfs, hl1], rfl⟩
                    · have hfs' : ¬ (first : Int) ≤ (s : Int) := by omega
                      go_wp2
                      go_meet
                      case rel => exact ⟨by rw [← HA.out]; simp [hfs], rfl⟩
                  case rest =>
                    obtain ⟨rfl, rfl⟩ := hcut
                    have HBel : Hid (Below w.heap.size w wE) := by
                      have h1 := HF.out.kept.below (B := w.heap.size) (Nat.le_refl _) (fun _ h => h.elim)
                      have h2 := HKE.out.below (B := w.heap.size) HF.out.kept.size (fun k h => by have := HF.out.lts; omega)
                      exact h1.trans h2
                    have HLg : Hid (W.cell? ⟨wD.heap.size + 1, 0, none⟩ = some (.slice none 0 0)) := cell_of_one HF.out.log
                    rcases HOut.out with ⟨o1, o2, rfl, o4⟩ | ⟨o1, o2, rfl, o4⟩ | ⟨o1, o2, o3, q, gr, cp, rfl, g1, g2, g3, g4, o4⟩
                    · obtain ⟨d, hd⟩ : ∃ d, s - first = d := ⟨_, rfl⟩
                      rw [hd] at o2 ⊢
                      have hbt : bA = true := by rw [← HA.out, hd]; simp [o1, o2]
                      have c1 : wE.cell? ⟨wD.heap.size + 1, 0, none⟩ = some (.slice none 0 0) := o4.cellAt HLg.out (by simp)
                      have c2 : wE.cell? ⟨wA.heap.size, d, none⟩ = some (.slice (some ⟨sb d, 0, none⟩) 2 2) := o4.cellAt (by simpa [o2] using HF.out.sent.cell d (by omega)) (by simp)
                      have c3 : wE.cell? ⟨sb d, 0, none⟩ = some (.int .u64 (100 + d)) := o4.cellAt (HF.out.sentc d (by omega) o2).2 (by simp)
                      have hsd : (s : Int) - (first : Int) = (d : Int) := by omega
                      have hsd2 : (100 : Int) + (s : Int) - (first : Int) = 100 + (d : Int) := by omega
                      have hdm : d < m := by omega
                      obtain ⟨bd, hbd⟩ : ∃ bd, sb d = bd := ⟨_, rfl⟩
                      rw [hbd] at c2 c3 ⊢
                      subst hbt
                      clear o4 o2 HA HOut HF HKE HP HX HPr hd hbd hps
                      go_wp2_with (go_at_call 7; refine (same_any _ _ _ _ (by omega) _).mono ?_; rintro e' w' ⟨rfl, kd, rfl⟩)
                      go_ret
                      exact ⟨rfl, HBel.out.os, HBel.out.tape, HBel.out.output, HBel.out.size, HBel.out.block⟩
                    · have hbt : bA = false := by rw [← HA.out]; simpa using o1
                      subst hbt
                      have c1 : wE.cell? ⟨wD.heap.size + 1, 0, none⟩ = some (.slice none 0 0) := o4.cellAt HLg.out (by simp)
                      have c2 : wE.cell? ⟨wB.heap.size, p, none⟩ = some (.slice (some ⟨lb p, 0, none⟩) 1 1) := o4.cellAt (HF.out.lat.cell p hp4) (by simp)
                      have c3 : wE.cell? ⟨lb p, 0, none⟩ = some (.int .u64 (1000 + p)) := o4.cellAt (HF.out.latc p hp4).2 (by simp)
                      rw [HP.out]
                      have hp4' : (p : Int) < 4 := by omega
                      obtain ⟨bd, hbd⟩ : ∃ bd, lb p = bd := ⟨_, rfl⟩
                      rw [hbd] at c2 c3 ⊢
                      clear o4 o1 HA HOut HF HKE HP HX HPr hbd hps
                      by_cases hneg : nx < 0
                      · clear o2
                        go_wp2_with (go_at_call 7; refine (same_any _ _ _ _ (by omega) _).mono ?_; rintro e' w' ⟨rfl, kd, rfl⟩)
                        go_ret
                        exact ⟨rfl, HBel.out.os, HBel.out.tape, HBel.out.output, HBel.out.size, HBel.out.block⟩
                      · have o2' : e ≤ nx := by omega
                        clear o2
                        go_wp2_with (go_at_call 7; refine (same_any _ _ _ _ (by omega) _).mono ?_; rintro e' w' ⟨rfl, kd, rfl⟩)
                        go_ret
                        exact ⟨rfl, HBel.out.os, HBel.out.tape, HBel.out.output, HBel.out.size, HBel.out.block⟩
                    · have hbt : bA = false := by rw [← HA.out]; simpa using o1
                      subst hbt
                      have hneg : ¬ nx < 0 := by omega
                      have hne : ¬ e ≤ nx := by omega
                      clear o4 o1 HA HOut HF HKE HP HX HPr hps
                      go_wp2_with (go_at_call 7; refine (same_any _ _ _ _ (by omega) _).mono ?_; rintro e' w' ⟨rfl, kd, rfl⟩)
                      go_ret
                      exact ⟨rfl, HBel.out.os, HBel.out.tape, HBel.out.output, HBel.out.size, HBel.out.block⟩
end Go.Proofs.Ybulkdhek
