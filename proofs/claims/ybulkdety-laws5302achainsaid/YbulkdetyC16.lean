import Derived.Test.YbulkdetyC15
namespace Go.Proofs.Ybulkdety
open Go.RowKit Go.Lib
set_option linter.unusedVariables false

theorem at_full {A S P n cap c : Nat} {nx : Nat → Nat} {zl bl : List Nat} {T : Nat → Nat → Int} {w : World} (h : Full A S P n cap c nx zl bl T w) (j : Nat) (hj : j < n + c) (hc : n + c ≤ 47) :
    Calls Yba.prog 11 #[.pointer (some ⟨A, 0, none⟩), .int .i64 j] w fun e w' => e = .returned (.pointer (some ⟨(loc P cap zl bl j).1, (loc P cap zl bl j).2, none⟩)) ∧ w' = w := by
  obtain ⟨hAS, sg, sh, xp, hA, hL, hE⟩ := h.arr
  have hk := h.kind j hj hc
  obtain ⟨l1, l2, l3⟩ := hE
  rcases hk with ⟨a1, e⟩ | ⟨a1, a2, hz, e⟩ | ⟨a1, a2, hb, e⟩
  · rw [e]
    exact at_page A S P j cap w ((hA.cell 0).trans rfl) ((hA.cell 2).trans rfl) ((h.blkS.cell 0).trans rfl) a1 (by omega)
  · rw [e]
    rcases l3 with ⟨l3, _⟩ | ⟨_, X, sv, vv, rfl, _, hX, hSi, _⟩
    · omega
    · have hl : zl.length = zl.length - 1 + 1 := by omega
      obtain ⟨Y, cY, hsv⟩ : ∃ Y cY, sv = .slice (some ⟨Y, 0, none⟩) zl.length cY := by
        unfold Singles at hSi
        rw [hl] at hSi ⊢
        exact owns_succ hSi
      subst hsv
      have hcell := World.ownsRow.cellAt hSi (j - cap) (by omega)
      rw [List.getElem?_map, List.getElem?_eq_getElem hz] at hcell
      exact at_single A S n cap c X Y cY zl.length (j - cap) j zl[j - cap] sg vv sh w hA hX hcell hz (by omega) (by omega) a2
  · rw [e]
    rcases l3 with ⟨l3, _⟩ | ⟨_, X, sv, vv, rfl, _, hX, hSi, l4⟩
    · omega
    · rcases l4 with ⟨l4, _⟩ | ⟨_, uv, hV, hU⟩
      · subst l4; simp at hb
      · obtain ⟨V, cV, rfl⟩ := owns_succ hV
        have hl : bl.length = bl.length - 1 + 1 := by omega
        obtain ⟨U, cU, huv⟩ : ∃ U cU, uv = .slice (some ⟨U, 0, none⟩) bl.length cU := by
          rw [hl] at hU ⊢
          exact owns_succ hU
        subst huv
        have hcell := hU.cellAt ((j - cap - 16) / 16) (by omega)
        rw [List.getElem?_map, List.getElem?_eq_getElem hb] at hcell
        exact at_block A S n cap c X V cV U cU bl.length (j - cap - 16) j bl[(j - cap - 16) / 16] sg sv sh w hA hX ((hV.cellAt 0 (by omega)).trans rfl) hcell hb (by omega) (by omega) (by omega)

set_option maxHeartbeats 400000 in
theorem next_some (A : Nat) (i r : Int) (w : World) (h : Hid (Calls Yba.prog 20 #[.pointer (some ⟨A, 3, none⟩), .int .i64 i] w fun e w' => e = .returned (.int .i64 r) ∧ Turn (fun _ => False) w w')) :
    Calls Yba.prog 15 #[.pointer (some ⟨A, 0, none⟩), .int .i64 i] w fun e w' => e = .returned (.int .i64 r) ∧ Turn (fun _ => False) w w' := by
  go_enter Yba.func15, Yba.ntmps15
  go_wp2_with (go_at_call 20; refine (Calls.mono h.out ?_); rintro e w1 ⟨rfl, ht⟩)
  go_ret
  exact ⟨rfl, ht⟩

theorem next_full {A S P n cap c : Nat} {nx : Nat → Nat} {zl bl : List Nat} {T : Nat → Nat → Int} {w : World} (h : Full A S P n cap c nx zl bl T w) (j : Nat) (hj : j < n + c) (hc : n + c ≤ 47) :
    Calls Yba.prog 15 #[.pointer (some ⟨A, 0, none⟩), .int .i64 j] w fun e w' => e = .returned (.int .i64 (leads nx j)) ∧ Turn (fun _ => False) w w' := by
  obtain ⟨hAS, sg, sh, xp, hA, hL, hE⟩ := h.arr
  rcases hL with ⟨rfl, rfl, rfl, rfl⟩ | ⟨hc1, G, F, L, m, p, tab, rfl, rfl, h3, h4, h5, K⟩
  · refine (next_none A j w ((hA.cell 5).trans rfl)).mono ?_
    rintro e w' ⟨rfl, rfl⟩
    exact ⟨rfl, Turn.refl _ _⟩
  · refine next_some A j _ w (lnext_any A G L m p j c tab nx w (by omega) ((hA.cell 3).trans rfl) ((hA.cell 4).trans rfl) ((hA.cell 5).trans rfl) hc1 (by omega) ((K.g.cell 0).trans rfl) K.hm (by have := K.p6; omega) K.t K.law ?_)
    have h8 : 8 ≤ m := by rw [K.hm]; exact Nat.pow_le_pow_right (n := 2) (i := 3) (j := p) (by decide) K.p3
    have := K.fit
    omega

theorem full_chained (A S P n cap c : Nat) (nx : Nat → Nat) (zl bl : List Nat) (T : Nat → Nat → Int) (hc : n + c ≤ 47) (hT : ∀ j q, 0 ≤ T j q ∧ T j q ≤ 255) :
    Chained A (fun W => Full A S P n cap c nx zl bl T W) (fun j => j < n + c) (leads nx) (loc P cap zl bl) T where
  at_ := fun W j hI hj => at_full hI j hj hc
  next := fun W j hI hj => (next_full hI j hj hc).mono fun e w' ⟨he, ht⟩ => ⟨he, hI.quiet hc ht, ⟨ht.os, ht.tape, ht.output, ht.size, fun k hk => ht.block k hk (fun x => x)⟩⟩
  cell := fun W j q hI hj hq => hI.top j hj q hq
  rng := hT
end Go.Proofs.Ybulkdety
