import Derived.Test.YbulkdetyC9
namespace Go.Proofs.Ybulkdety
open Go.RowKit Go.Lib
set_option linter.unusedVariables false

theorem cell_one {w : World} {b : Nat} {v : Value} (h : w.cell? ⟨b, 0, none⟩ = some v) : ∀ (j : Nat) (u : Value), [v][j]? = some u → w.cell? ((⟨b, 0, none⟩ : Addr).add j) = some u := by
  intro j u hj
  match j, hj with
  | 0, hj =>
    simp at hj
    subst hj
    exact h
  | j + 1, hj => simp at hj

set_option maxHeartbeats 1000000 in
set_option maxRecDepth 100000 in
theorem shelf_second (B X b b0 : Nat) (sv vv : Value) (w : World) (hB : B ≤ w.heap.size) (hX : IsBlk w X #[sv, vv] 57) (hSh : Shelf B w vv [b0]) :
    Calls Yba.prog 21 #[.pointer (some ⟨X, 1, none⟩), .pointer (some ⟨b, 0, none⟩)] w fun e w' => e = .returned (.tuple #[]) ∧ IsBlk w' X #[sv, vv] 57 ∧ Shelf B w' vv [b0, b] ∧ Turn (fun k => ∃ uv, w.ownsRow B 59 1 vv 1 [uv] ∧ (vv.ownBlock = some k ∨ uv.ownBlock = some k)) w w' := by
  obtain ⟨uv, hV, hU⟩ := hSh
  obtain ⟨V, cV, rfl⟩ := owns_succ hV
  obtain ⟨U, cU, rfl⟩ := owns_succ (k := 0) hU
  have x1 : w.cell? ⟨X, 1, none⟩ = some (.slice (some ⟨V, 0, none⟩) 1 cV) := (hX.cell 1).trans rfl
  have v1 : w.cell? ⟨V, 0, none⟩ = some (.slice (some ⟨U, 0, none⟩) 1 cU) := (hV.cellAt 0 (by omega)).trans rfl
  have vf := hV.frozenAt 0
  have hVlt := (hV.lt V rfl).2
  have hUlt := (hU.lt U rfl).2
  obtain ⟨j0, ji, jz0, jz1, jz2⟩ := info_parts info58
  have HL1 : 1 + 1 ≤ maxLen := by unfold maxLen; omega
  have HM : Hid (∀ k, (k = V ∨ (Value.slice (some ⟨U, 0, none⟩) 1 cU).ownBlock = some k) → ∃ uv, w.ownsRow B 59 1 (.slice (some ⟨V, 0, none⟩) 1 cV) 1 [uv] ∧ ((Value.slice (some ⟨V, 0, none⟩) 1 cV).ownBlock = some k ∨ uv.ownBlock = some k)) := fun k hk => ⟨_, hV, by
    rcases hk with rfl | h
    · exact Or.inl rfl
    · exact Or.inr h⟩
  have HF : Hid (∀ (q : Nat) (w5 : World) (v' : Value), ((w.drewN q).alloc (.cells #[.pointer (some ⟨b, 0, none⟩)] 58)).grownBy w5 (some U) → w5.ownsRow B 58 1 v' (1 + 1) ([.pointer (some ⟨b0, 0, none⟩)] ++ [.pointer (some ⟨b, 0, none⟩)]) → w5.cell? ⟨V, 0, none⟩ = some (.slice (some ⟨U, 0, none⟩) 1 cU) ∧ w5.frozen? ⟨V, 0, none⟩ = false ∧
      IsBlk (w5.setCell ⟨V, 0, none⟩ v') X #[sv, .slice (some ⟨V, 0, none⟩) 1 cV] 57 ∧ Shelf B (w5.setCell ⟨V, 0, none⟩ v') (.slice (some ⟨V, 0, none⟩) 1 cV) [b0, b] ∧ Turn (fun k => ∃ uv, w.ownsRow B 59 1 (.slice (some ⟨V, 0, none⟩) 1 cV) 1 [uv] ∧ ((Value.slice (some ⟨V, 0, none⟩) 1 cV).ownBlock = some k ∨ uv.ownBlock = some k)) w (w5.setCell ⟨V, 0, none⟩ v')) := by
    intro q w5 v' h1 h2
    have tq : Turn (fun _ => False) w (w.drewN q) := (Turn.refl _ _).drewN q
    obtain ⟨f1, f2, f3, f4, f5⟩ := shelf_fin B (w.drewN q) w5 X V cV b sv (.slice (some ⟨U, 0, none⟩) 1 cU) v' [b0] (hX.turn tq (by simp)) (owns_turn hV tq (fun _ _ h => h)) (owns_turn hU tq (fun _ _ h => h)) h1 h2
    exact ⟨f1, f2, f3, f4, (tq.mono (fun _ _ h => h.elim)).then f5 (fun k _ h => HM.out k h)⟩
  have HO : Hid (∀ q : Nat, ((w.drewN q).alloc (.cells #[.pointer (some ⟨b, 0, none⟩)] 58)).ownsRow B 58 1 (.slice (some ⟨U, 0, none⟩) 1 cU) 1 [.pointer (some ⟨b0, 0, none⟩)]) := fun q => (owns_turn hU ((Turn.refl (fun _ => False) w).drewN q) (fun _ _ h => h)).alloc _
  have HBq : Hid (∀ q : Nat, B ≤ ((w.drewN q).alloc (.cells #[.pointer (some ⟨b, 0, none⟩)] 58)).heap.size) := fun q => Nat.le_trans hB (by rw [World.size_alloc]; exact Nat.le_succ _)
  by_cases hc : cU = 1
  · subst hc
    clear HF HO
    have HX0 : Hid (IsBlk w X #[sv, .slice (some ⟨V, 0, none⟩) 1 cV] 57) := hX
    have HV0 : Hid (w.ownsRow B 59 1 (.slice (some ⟨V, 0, none⟩) 1 cV) 1 [.slice (some ⟨U, 0, none⟩) 1 1]) := hV
    have HU0 : Hid (w.ownsRow B 58 1 (.slice (some ⟨U, 0, none⟩) 1 1) 1 [.pointer (some ⟨b0, 0, none⟩)]) := hU
    have hUc : w.cell? ⟨U, 0, none⟩ = some (.pointer (some ⟨b0, 0, none⟩)) := (hU.cellAt 0 (by omega)).trans rfl
    clear hX hV hU
    have e1 : IntKind.i64.wrap 0 = 0 := by decide
    have e2 : IntKind.i64.wrap 1 = 1 := by decide
    have e3 : IntKind.i64.wrap 2 = 2 := by decide
    have HL0 : 0 + 1 ≤ maxLen := by unfold maxLen; omega
    have HT3 : Hid (∀ (q : Nat) (w3 : World), Turn (fun _ => False) (w.drewN q) w3 → Turn (fun _ => False) w w3 ∧ w3.cell? ⟨V, 0, none⟩ = some (.slice (some ⟨U, 0, none⟩) 1 1) ∧ w3.cell? ⟨U, 0, none⟩ = some (.pointer (some ⟨b0, 0, none⟩))) := by
      intro q w3 h
      have t := ((Turn.refl (fun _ => False) w).drewN q).trans h
      exact ⟨t, (t.cell hVlt (by simp)).trans v1, (t.cell hUlt (by simp)).trans hUc⟩
    have HT5 : Hid (∀ (w3 w5 : World) (U2 : Nat), Turn (fun _ => False) w w3 → w.heap.size ≤ U2 → w3.grownBy w5 (some U2) → Turn (fun _ => False) w w5 ∧ w5.cell? ⟨V, 0, none⟩ = some (.slice (some ⟨U, 0, none⟩) 1 1) ∧ w5.frozen? ⟨V, 0, none⟩ = false) := by
      intro w3 w5 U2 t3 h hg
      have t : Turn (fun _ => False) w w5 := t3.grown hg (fun k hk => by simp at hk; omega)
      exact ⟨t, (t.cell hVlt (by simp)).trans v1, (t.frozen hVlt (by simp)).trans vf⟩
    go_enter Yba.func21, Yba.ntmps21
    go_wp2_with fail
    go_quiet (fail)
    go_wp2_with fail
    go_quiet (fail)
    go_wp2_with fail
    go_region_law (first | (go_simp; go_at_call 25; refine (growp_two _).mono ?_; rintro e w3 ⟨cU2, U2, hU1, hU2, rfl, hU3, hU4, hU5⟩; obtain ⟨t3, v3, u3⟩ := HT3.out _ w3 hU5; have hU3' : w.heap.size ≤ U2 := hU3; have hO4 := owns_rebase (base := w.heap.size) hU4 hU3'; clear hU3 hU4 hU5) | (refine step_append_own rfl _ _ 59 rfl w.heap.size 58 j0 _ 1 8 Yba.underlying59 ji jz0 jz1 jz2 rfl (by decide) (.slice (some ⟨U2, 0, none⟩) 0 cU2) 0 [] rfl hO4 ⟨U, 0, none⟩ 1 1 [.pointer (some ⟨b0, 0, none⟩)] rfl rfl (cell_one u3) (by simp [Value.oneCell']) HL0 (by decide) t3.size ?_; intro v5 w5 hown5 hgr5; obtain ⟨U5, cU5, rfl⟩ := owns_succ hown5; obtain ⟨t5, v5c, v5f⟩ := HT5.out w3 w5 U2 t3 hU3' hgr5))
    all_goals
      have hU5ge : w.heap.size ≤ U5 := (hown5.lt U5 rfl).1
      have hX5 := HX0.out.turn t5 (by simp)
      have hV5 := owns_turn HV0.out t5 (fun _ _ h => h)
      have nVX : V ≠ X := fun e => owns_ne HV0.out HX0.out (by decide) (by rw [e]; rfl)
      have nUV : U5 ≠ V := by omega
      have hX6 := hX5.turn (Turn.set1 w5 V 0 (.slice (some ⟨U5, 0, none⟩) 1 cU5)) (Ne.symm nVX)
      have hV6 := (hV5.stored 0 (.slice (some ⟨U5, 0, none⟩) 1 cU5)).1
      have hU6 := owns_turn (owns_weaken hown5 hB) (Turn.set1 w5 V 0 (.slice (some ⟨U5, 0, none⟩) 1 cU5)) (fun k hk => by simp [Value.ownBlock] at hk; omega)
      have t6 : Turn (fun k => k = V) w (w5.setCell ⟨V, 0, none⟩ (.slice (some ⟨U5, 0, none⟩) 1 cU5)) := (t5.mono (M' := fun k => k = V) (fun _ _ h => h.elim)).then (Turn.set1 w5 V 0 _) (fun k hk e => e)
      have hVl : V < (w5.setCell ⟨V, 0, none⟩ (.slice (some ⟨U5, 0, none⟩) 1 cU5)).heap.size := (hV6.lt V rfl).2
      have w6c : (w5.setCell ⟨V, 0, none⟩ (.slice (some ⟨U5, 0, none⟩) 1 cU5)).cell? ⟨V, 0, none⟩ = some (.slice (some ⟨U5, 0, none⟩) 1 cU5) := (hV6.cellAt 0 (by omega)).trans rfl
      generalize w5.setCell ⟨V, 0, none⟩ (.slice (some ⟨U5, 0, none⟩) 1 cU5) = W6 at *
      have HF : Hid (∀ (w7 : World) (v' : Value), (W6.alloc (.cells #[.pointer (some ⟨b, 0, none⟩)] 58)).grownBy w7 (some U5) → w7.ownsRow B 58 1 v' (1 + 1) ([.pointer (some ⟨b0, 0, none⟩)] ++ [.pointer (some ⟨b, 0, none⟩)]) → w7.cell? ⟨V, 0, none⟩ = some (.slice (some ⟨U5, 0, none⟩) 1 cU5) ∧ w7.frozen? ⟨V, 0, none⟩ = false ∧
          IsBlk (w7.setCell ⟨V, 0, none⟩ v') X #[sv, .slice (some ⟨V, 0, none⟩) 1 cV] 57 ∧ Shelf B (w7.setCell ⟨V, 0, none⟩ v') (.slice (some ⟨V, 0, none⟩) 1 cV) [b0, b] ∧ Turn (fun k => ∃ uv, w.ownsRow B 59 1 (.slice (some ⟨V, 0, none⟩) 1 cV) 1 [uv] ∧ ((Value.slice (some ⟨V, 0, none⟩) 1 cV).ownBlock = some k ∨ uv.ownBlock = some k)) w (w7.setCell ⟨V, 0, none⟩ v')) := by
        intro w7 v' h1 h2
        obtain ⟨f1, f2, f3, f4, f5⟩ := shelf_fin B W6 w7 X V cV b sv (.slice (some ⟨U5, 0, none⟩) 1 cU5) v' [b0] hX6 hV6 hU6 h1 h2
        refine ⟨f1, f2, f3, f4, (t6.mono (fun k _ h => HM.out k (Or.inl h))).then f5 (fun k hk h => ?_)⟩
        rcases h with h | h
        · exact HM.out k (Or.inl h)
        · simp [Value.ownBlock] at h; omega
      have HB6 : B ≤ (W6.alloc (.cells #[.pointer (some ⟨b, 0, none⟩)] 58)).heap.size := by have := t6.size; simp; omega
      have HO6 : Hid (W6.ownsRow B 58 1 (.slice (some ⟨U5, 0, none⟩) 1 cU5) 1 [.pointer (some ⟨b0, 0, none⟩)]) := hU6
      clear hX5 hV5 hX6 hV6 hU6 t6 v5c v5f t5 hown5 hgr5 hO4 v3 u3 t3 HX0 HV0 HU0 x1 v1 vf hUc e1 e2 e3 HT3 HT5 HM
      go_wp2_with (at_builtin; refine wpList_append_own _ rfl _ _ 59 rfl B 58 j0 _ 1 8 Yba.underlying59 ji jz0 jz1 jz2 rfl (by decide) (.slice (some ⟨U5, 0, none⟩) 1 cU5) 1 [.pointer (some ⟨b0, 0, none⟩)] rfl (HO6.out.alloc _) ⟨W6.heap.size, 0, none⟩ 1 1 [.pointer (some ⟨b, 0, none⟩)] rfl rfl (cell_one_new _ _ _) (by simp [Value.oneCell']) HL1 (by decide) HB6 ?_; intro v7 w7 hown7 hgr7 _; obtain ⟨U7, cU7, rfl⟩ := owns_succ hown7; obtain ⟨k1, k2, HE⟩ := HF.out w7 _ hgr7 hown7)
      go_end0
      exact ⟨rfl, HE⟩
  · have hcq : ((1 : Int) == (cU : Int)) = false := by simp; omega
    clear hX hV hU HM
    go_enter Yba.func21, Yba.ntmps21
    go_wp2_with fail
    go_quiet (fail)
    go_wp2_with fail
    go_quiet (fail)
    go_wp2_with (at_builtin; refine wpList_append_own _ rfl _ _ 59 rfl B 58 j0 _ 1 8 Yba.underlying59 ji jz0 jz1 jz2 rfl (by decide) (.slice (some ⟨U, 0, none⟩) 1 cU) 1 [.pointer (some ⟨b0, 0, none⟩)] rfl (HO.out _) ⟨w.heap.size, 0, none⟩ 1 1 [.pointer (some ⟨b, 0, none⟩)] rfl rfl (cell_one_new _ _ _) (by simp [Value.oneCell']) HL1 (by decide) (HBq.out _) ?_; intro v5 w5 hown5 hgr5 _; obtain ⟨U5, cU5, rfl⟩ := owns_succ hown5; obtain ⟨k1, k2, HE⟩ := HF.out _ w5 _ hgr5 hown5)
    go_end0
    exact ⟨rfl, HE⟩
end Go.Proofs.Ybulkdety
