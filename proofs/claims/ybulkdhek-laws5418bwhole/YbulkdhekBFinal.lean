import Derived.Test.YbulkdhekBParts
namespace Go.Proofs.Ybulkdhek
open Go.RowKit
set_option linter.unusedVariables false

theorem Kept.cellAt {S : Nat → Prop} {w w' : World} (h : Kept S w w') {b j : Nat} {x : Value} (hc : w.cell? ⟨b, j, none⟩ = some x) (hs : ¬ S b) : w'.cell? ⟨b, j, none⟩ = some x :=
  (World.cell?_of_block (w := w) (a := ⟨b, j, none⟩) (h.block b (World.block_lt_of_cell? w _ hc) hs)).trans hc

/-- All that lies ready when wordsOf is called. -/
structure Final (w W : World) (P X E O S T Wb n m B : Nat) (zs : List Int) (mkf : Nat → Bool) (v : Nat → Value) (sb lb : Nat → Nat) : Prop where
  pr : Row W P n (fun j => .int .i64 (fp zs j))
  ev : ∃ F, Row W E (n * 3) F ∧ ∀ i, i < n → F (i * 3) = .int .i64 (fp zs i) ∧ F (i * 3 + 1) = .int .i64 ((pos (fp zs) (fp zs i) i).length + 1 : Nat) ∧ ∃ kk x, F (i * 3 + 2) = .int kk x
  x2 : W.cell? ⟨X, 2, none⟩ = some (.slice (some ⟨E, 0, none⟩) n n)
  x3 : W.cell? ⟨X, 3, none⟩ = some (.slice (some ⟨O, 0, none⟩) 4 4)
  on : Row W O 4 v
  lists : ∀ p, p < 4 → W.ownsRow B 3 1 (v p) (pos (fp zs) p n).length ((pos (fp zs) p n).map fun (j : Nat) => .int .i64 j)
  sent : Row W S m (fun i => if mkf i = true then .slice (some ⟨sb i, 0, none⟩) 2 2 else .slice none 0 0)
  sentc : ∀ i, i < m → mkf i = true → sb i < Wb ∧ W.cell? ⟨sb i, 0, none⟩ = some (.int .u64 (100 + i))
  lat : Row W T 4 (fun i => .slice (some ⟨lb i, 0, none⟩) 1 1)
  latc : ∀ i, i < 4 → lb i < Wb ∧ W.cell? ⟨lb i, 0, none⟩ = some (.int .u64 (1000 + i))
  w0 : W.cell? ⟨Wb, 0, none⟩ = some (.pointer (some ⟨X, 0, none⟩))
  w6 : W.cell? ⟨Wb, 6, none⟩ = some (.slice (some ⟨T, 0, none⟩) 4 4)
  w7 : W.cell? ⟨Wb, 7, none⟩ = some (.slice (some ⟨S, 0, none⟩) m m)
  log : W.heap[Wb + 1]? = some (.cells #[.slice none 0 0] 25 (0, 0))
  ret : W.heap[Wb + 1 + 1]? = some (.cells #[.slice none 0 0] 38 (0, 0))
  lts : P < Wb ∧ S < Wb ∧ T < Wb ∧ w.heap.size ≤ Wb
  kept : Kept (fun _ => False) w W

theorem final_of {w wA wq wB wr4 wD : World} {P X E O B n m : Nat} {zs : List Int} {mkf : Nat → Bool} {v : Nat → Value} {sb lb : Nat → Nat} {a1 a2 a3 a4 a5 a8 a9 : Value} {t : TypeId}
    (hb : Built w wA P X E O B n n n zs v) (hk : Kept (fun _ => False) wA wq ∧ wq.heap.size = wA.heap.size + 1) (hs : Sent wq wB wA.heap.size m m mkf 2 100 sb)
    (hk4 : Kept (fun _ => False) wB wr4 ∧ wr4.heap.size = wB.heap.size + 1) (hl : Sent wr4 wD wB.heap.size 4 4 (fun _ => true) 1 1000 lb) :
    Final w (((wD.alloc (.cells #[.pointer (some ⟨X, 0, none⟩), a1, a2, a3, a4, a5, .slice (some ⟨wB.heap.size, 0, none⟩) 4 4, .slice (some ⟨wA.heap.size, 0, none⟩) m m, a8, a9] t)).alloc (.cells #[.slice none 0 0] 25)).alloc (.cells #[.slice none 0 0] 38))
      P X E O wA.heap.size wB.heap.size wD.heap.size n m B zs mkf v sb lb := by
  obtain ⟨W, hW⟩ : ∃ W, W = (((wD.alloc (.cells #[.pointer (some ⟨X, 0, none⟩), a1, a2, a3, a4, a5, .slice (some ⟨wB.heap.size, 0, none⟩) 4 4, .slice (some ⟨wA.heap.size, 0, none⟩) m m, a8, a9] t)).alloc (.cells #[.slice none 0 0] 25)).alloc (.cells #[.slice none 0 0] 38)) := ⟨_, rfl⟩
  have b0 := heap3_0 wD (.cells #[.pointer (some ⟨X, 0, none⟩), a1, a2, a3, a4, a5, .slice (some ⟨wB.heap.size, 0, none⟩) 4 4, .slice (some ⟨wA.heap.size, 0, none⟩) m m, a8, a9] t) (.cells #[.slice none 0 0] 25) (.cells #[.slice none 0 0] 38)
  have b1 := heap3_1 wD (.cells #[.pointer (some ⟨X, 0, none⟩), a1, a2, a3, a4, a5, .slice (some ⟨wB.heap.size, 0, none⟩) 4 4, .slice (some ⟨wA.heap.size, 0, none⟩) m m, a8, a9] t) (.cells #[.slice none 0 0] 25) (.cells #[.slice none 0 0] 38)
  have b2 := heap3_2 wD (.cells #[.pointer (some ⟨X, 0, none⟩), a1, a2, a3, a4, a5, .slice (some ⟨wB.heap.size, 0, none⟩) 4 4, .slice (some ⟨wA.heap.size, 0, none⟩) m m, a8, a9] t) (.cells #[.slice none 0 0] 25) (.cells #[.slice none 0 0] 38)
  have KW : Kept (fun _ => False) wD W := by subst hW; exact (((Kept.refl _ wD).alloc _).alloc _).alloc _
  rw [← hW] at b0 b1 b2 ⊢
  clear hW
  have z1 := hs.kept.size
  have z2 := hl.kept.size
  have z3 := hb.B1
  have z4 := hb.kept.size
  have rS := hs.row.lt
  have rT := hl.row.lt
  -- wA to W: S and T alone
  have K1 : Kept (fun b => b = wA.heap.size) wA wB := (hk.1.mono (fun _ _ h => h.elim)).then hs.kept (fun i hi h => h)
  have K2 : Kept (fun b => b = wB.heap.size) wB wD := (hk4.1.mono (fun _ _ h => h.elim)).then hl.kept (fun i hi h => h)
  have K3 : Kept (fun b => b = wB.heap.size) wB W := K2.then KW (fun _ _ h => h.elim)
  have K4 : Kept (fun _ => False) wA W := by
    have := K1.mono (T := fun _ => False) (fun b hb e => by omega)
    exact this.then K3 (fun b hb e => by omega)
  refine ⟨hb.pr.kept K4 (fun h => h), ?_, K4.cellAt hb.x2 (fun h => h), K4.cellAt hb.x3 (fun h => h), hb.on.kept K4 (fun h => h), ?_, ?_, ?_, ?_, ?_, by simp [World.cell?, b0], by simp [World.cell?, b0], by simp [World.cell?, b0], b1, b2, ⟨by have := hb.P1; omega, by omega, by omega, by omega⟩, hb.kept.trans K4⟩
  · obtain ⟨F, hF, hF'⟩ := hb.ev
    exact ⟨F, hF.kept K4 (fun h => h), hF'⟩
  · intro p hp
    have h := hb.lists p hp
    refine ⟨h.1, ?_⟩
    rcases h.2 with h0 | ⟨g, cap, cur, e1, e2, e3, e4⟩
    · exact .inl h0
    · exact .inr ⟨g, cap, cur, e1, e2, K4.at e3 (fun h => h), e4⟩
  · refine (hs.row.kept K3 (by omega)).congr (fun j hj => ?_)
    simp [hj]
  · intro i hi hmk
    obtain ⟨c1, c2⟩ := hs.cells i hi hmk
    have := World.block_lt_of_cell? wB _ c2
    simp only at this
    exact ⟨by omega, K3.cellAt c2 (by omega)⟩
  · refine (hl.row.kept KW (fun h => h)).congr (fun j hj => ?_)
    simp [hj]
  · intro i hi
    obtain ⟨c1, c2⟩ := hl.cells i hi rfl
    have := World.block_lt_of_cell? wD _ c2
    exact ⟨this, KW.cellAt c2 (fun h => h)⟩

/-- What wordsOf gives. -/
def Outcome (W w' : World) (mkf : Nat → Bool) (s first p Wb : Nat) (e nx : Int) (sb lb : Nat → Nat) (got : Value) : Prop :=
  (first ≤ s ∧ mkf (s - first) = true ∧ got = .slice (some ⟨sb (s - first), 0, none⟩) 2 2 ∧ Kept (fun _ => False) W w') ∨
  (¬ (first ≤ s ∧ mkf (s - first) = true) ∧ (nx < 0 ∨ e ≤ nx) ∧ got = .slice (some ⟨lb p, 0, none⟩) 1 1 ∧ Kept (fun _ => False) W w') ∨
  (¬ (first ≤ s ∧ mkf (s - first) = true) ∧ 0 ≤ nx ∧ nx < e ∧ ∃ q gr cp, got = .slice (some ⟨gr, 0, none⟩) 1 1 ∧ w'.cell? ⟨Wb + 1, 0, none⟩ = some (.slice (some ⟨q, 0, none⟩) 1 cp) ∧ w'.cell? ⟨q, 0, none⟩ = some (.int .i64 s) ∧
    w'.cell? ⟨Wb + 1 + 1, 0, none⟩ = some (.slice (some ⟨gr, 0, none⟩) 1 1) ∧ w'.cell? ⟨gr, 0, none⟩ = some (.int .u64 (2000 + s)) ∧ Kept (fun k => k = Wb + 1 ∨ k = Wb + 1 + 1) W w')

theorem words_final {w W : World} {P X E O S T Wb n m B : Nat} {zs : List Int} {mkf : Nat → Bool} {v : Nat → Value} {sb lb : Nat → Nat} (h : Final w W P X E O S T Wb n m B zs mkf v sb lb)
    (s first : Nat) (e nx : Int) (hn : n ≤ 65536) (hsn : s < n) (hm : first + m = n) (hnx : NextIs (fp zs) n s nx) :
    Calls Yba.prog 6 #[.pointer (some ⟨Wb, 0, none⟩), .int .i64 s, .int .i64 e, .int .i64 first, .func (.func 5) #[] #[.pointer (some ⟨Wb + 1, 0, none⟩), .pointer (some ⟨Wb + 1 + 1, 0, none⟩)]] W
      fun e' w' => ∃ got, e' = .returned got ∧ Outcome W w' mkf s first (fp zs s) Wb e nx sb lb got := by
  by_cases hA : first ≤ s ∧ mkf (s - first) = true
  · refine (words_sent Wb S s first (s - first) m (sb (s - first)) e _ W (by omega) (by omega) (by omega) h.w7 ?_).mono fun e' w' ⟨he, hw⟩ => ⟨_, he, .inl ⟨hA.1, hA.2, rfl, ?_⟩⟩
    · have := h.sent.cell (s - first) (by omega)
      simpa [hA.2] using this
    · subst hw; exact Kept.refl _ _
  have hp4 := fp_lt zs s
  obtain ⟨F, hF, hF'⟩ := h.ev
  obtain ⟨f0, f1, kk, x, f2⟩ := hF' s hsn
  have hidx := idx_le (fp zs) n s hsn
  have hlen := pos_len (fp zs) (fp zs s) n
  have hown := h.lists _ hp4
  obtain ⟨g, cap, hv, hcell⟩ : ∃ g cap, v (fp zs s) = .slice (some ⟨g, 0, none⟩) (pos (fp zs) (fp zs s) n).length cap ∧ ∀ j, j < (pos (fp zs) (fp zs s) n).length → W.cell? ⟨g, j, none⟩ = some (.int .i64 ((pos (fp zs) (fp zs s) n).getD j 0 : Nat)) := by
    rcases hown.2 with ⟨_, h0⟩ | ⟨g, cap, cur, e1, _⟩
    · omega
    · refine ⟨g, cap, e1, fun j hj => ?_⟩
      rw [e1] at hown
      rw [hown.cellAt j (by omega)]
      simp [List.getD, hj]
  have hop := h.on.cell _ hp4
  rw [hv] at hop
  obtain ⟨l1, l2⟩ := h.latc _ hp4
  have hR : ∀ y, ((pos (fp zs) (fp zs s) s).length + 1 < (pos (fp zs) (fp zs s) n).length → ((pos (fp zs) (fp zs s) n).getD ((pos (fp zs) (fp zs s) s).length + 1) 0 : Int) = y) →
      Reads W Wb X E O T g (lb (fp zs s)) n s (fp zs s) ((pos (fp zs) (fp zs s) s).length + 1) (pos (fp zs) (fp zs s) n).length cap y := fun y hy =>
    ⟨h.w0, h.w6, h.x2, h.x3, by rw [hF.cell _ (by omega), f0], by rw [hF.cell _ (by omega), f1], ⟨kk, x, by rw [hF.cell _ (by omega), f2]⟩, hop, fun hi => by rw [hcell _ hi, ← hy hi], h.lat.cell _ hp4⟩
  -- the test on sent
  have hB : s < first ∨ ∃ d, first + d = s ∧ d < m ∧ W.cell? ⟨S, d, none⟩ = some (.slice none 0 0) := by
    rcases Nat.lt_or_ge s first with h1 | h1
    · exact .inl h1
    · refine .inr ⟨s - first, by omega, by omega, ?_⟩
      have hmk : mkf (s - first) = false := by
        cases hq : mkf (s - first) with
        | false => rfl
        | true => exact absurd ⟨h1, hq⟩ hA
      have := h.sent.cell (s - first) (by omega)
      simpa [hmk] using this
  have K : ∀ {e' : Ending} {w' : World}, (e' = .returned (.slice (some ⟨lb (fp zs s), 0, none⟩) 1 1) ∧ Kept (fun _ => False) W w') → (nx < 0 ∨ e ≤ nx) → ∃ got, e' = .returned got ∧ Outcome W w' mkf s first (fp zs s) Wb e nx sb lb got :=
    fun hh hc => ⟨_, hh.1, .inr (.inl ⟨hA, hc, rfl, hh.2⟩)⟩
  rcases hnx with ⟨rfl, hno⟩ | ⟨j, rfl, j1, j2, j3, j4⟩
  · have hl := idx_last (fp zs) n s hsn hno
    have R := hR 0 (fun hlt => by omega)
    rcases hB with h1 | ⟨d, h1, h2, h3⟩
    · exact (words_latest_ax Wb X E O T g _ n s _ _ _ cap 0 e _ first W hsn hn hp4 (by omega) R h1 hl).mono fun e' w' hh => K hh (.inl (by omega))
    · exact (words_latest_bx Wb X E O T g _ n s _ _ _ cap 0 e _ first W hsn hn hp4 (by omega) R d m S h1 h2 h.w7 h3 hl).mono fun e' w' hh => K hh (.inl (by omega))
  · obtain ⟨i1, i2⟩ := idx_next (fp zs) n s j j1 j2 j3 j4
    have R := hR (j : Int) (fun _ => by simp [List.getD, i2])
    by_cases hc : e ≤ (j : Int)
    · rcases hB with h1 | ⟨d, h1, h2, h3⟩
      · exact (words_latest_ay Wb X E O T g _ n s _ _ _ cap j e _ first W hsn hn hp4 (by omega) R h1 i1 hc).mono fun e' w' hh => K hh (.inr hc)
      · exact (words_latest_by Wb X E O T g _ n s _ _ _ cap j e _ first W hsn hn hp4 (by omega) R d m S h1 h2 h.w7 h3 i1 hc).mono fun e' w' hh => K hh (.inr hc)
    · rcases hB with h1 | ⟨d, h1, h2, h3⟩
      · exact (words_earlier_a Wb X E O T g _ n s _ _ _ cap j e first W hsn hn hp4 (by omega) R h1 i1 (by omega) _ _ (by omega) h.log h.ret).mono fun e' w' ⟨q, gr, cp, he, hr⟩ => ⟨_, he, .inr (.inr ⟨hA, by omega, by omega, q, gr, cp, rfl, hr⟩)⟩
      · exact (words_earlier_b Wb X E O T g _ n s _ _ _ cap j e first W hsn hn hp4 (by omega) R d m S h1 h2 h.w7 h3 i1 (by omega) _ _ (by omega) h.log h.ret).mono fun e' w' ⟨q, gr, cp, he, hr⟩ => ⟨_, he, .inr (.inr ⟨hA, by omega, by omega, q, gr, cp, rfl, hr⟩)⟩
end Go.Proofs.Ybulkdhek
