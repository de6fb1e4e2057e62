import Derived.Test.YbulkdetyC13
namespace Go.Proofs.Ybulkdety
open Go.RowKit Go.Lib
set_option linter.unusedVariables false

/-- The array with c overflow buckets chained. -/
structure St (A S n cap c : Nat) (nx : Nat → Nat) (zl bl : List Nat) (w : World) : Prop where
  arr : ArrC A S n cap c (n + c - cap) nx zl bl w
  bk : Bk (S + 1) w zl bl
  hS : S < w.heap.size

theorem St.a1 {A S n cap c : Nat} {nx : Nat → Nat} {zl bl : List Nat} {w : World} (h : St A S n cap c nx zl bl w) : w.cell? ⟨A, 1, none⟩ = some (.int .i64 n) := by
  obtain ⟨_, sg, sh, xp, hA, _⟩ := h.arr
  exact (hA.cell 1).trans rfl
theorem St.a2 {A S n cap c : Nat} {nx : Nat → Nat} {zl bl : List Nat} {w : World} (h : St A S n cap c nx zl bl w) : w.cell? ⟨A, 2, none⟩ = some (.int .i64 cap) := by
  obtain ⟨_, sg, sh, xp, hA, _⟩ := h.arr
  exact (hA.cell 2).trans rfl
theorem St.a5 {A S n cap c : Nat} {nx : Nat → Nat} {zl bl : List Nat} {w : World} (h : St A S n cap c nx zl bl w) : w.cell? ⟨A, 5, none⟩ = some (.int .i64 c) := by
  obtain ⟨_, sg, sh, xp, hA, _⟩ := h.arr
  exact (hA.cell 5).trans rfl
theorem St.quiet {A S n cap c : Nat} {nx : Nat → Nat} {zl bl : List Nat} {w w' : World} (h : St A S n cap c nx zl bl w) (t : Turn (fun _ => False) w w') : St A S n cap c nx zl bl w' := by
  obtain ⟨⟨h1, sg, sh, xp, hA, hL, hE⟩, h2, h3⟩ := h
  exact ⟨⟨h1, sg, sh, xp, hA.turn t (by simp), hL.turn t (fun _ _ _ _ _ x => x), hE.turn t (fun _ _ _ _ _ x => x)⟩, h2.turn t (fun _ _ _ _ _ x => x), Nat.lt_of_lt_of_le h3 t.size⟩

set_option maxHeartbeats 1000000 in
theorem addOverflow_any (A S n cap c i : Nat) (nx : Nat → Nat) (zl bl : List Nat) (w : World) (h : St A S n cap c nx zl bl w) (hi : i ≤ 1000) (hni : nx i = 0) (hn : 1 ≤ n) (hc : n + c ≤ 47) (hcap : cap ≤ maxLen) :
    Calls Yba.prog 10 #[.pointer (some ⟨A, 0, none⟩), .int .i64 i] w fun r w' => r = .returned (.int .i64 ((n + c : Nat) : Int)) ∧ ∃ zl' bl', St A S n cap (c + 1) (upd nx i (n + c)) zl' bl' w' ∧ Turn (fun k => k = A ∨ S + 1 ≤ k) w w' ∧ Keeps w w' := by
  have a1 := h.a1
  have a2 := h.a2
  have a5 := h.a5
  have HS : Hid (St A S n cap c nx zl bl w) := h
  have hcap' : cap ≤ 9223372036854775807 := by unfold maxLen at hcap; omega
  clear h hcap
  by_cases hge : cap ≤ n + c
  · go_enter Yba.func10, Yba.ntmps10
    go_wp2_with fail
    go_quiet ((go_at_call 12; exact Calls.quiet_of_same (overflows_any A c _ a5)))
    go_wp2_with fail
    have hq := HS.out.quiet ((Turn.refl (fun _ => False) w).drewN nq)
    rw [show ((n : Int) + (c : Int) - (cap : Int)) = ((n + c - cap : Nat) : Int) from by omega]
    refine (makeExtra_any A S n cap c (n + c - cap) nx zl bl _ hq.arr hq.bk (by omega) hq.hS).mono ?_
    rintro r w1 ⟨rfl, zl', bl', g1, g2, g3, g4⟩
    have hS1 : S < w1.heap.size := Nat.lt_of_lt_of_le hq.hS g3.size
    have T1 : Hid (Turn (fun k => k = A ∨ S + 1 ≤ k) w w1) := ((Turn.refl _ w).drewN nq).trans g3
    have T2 : Hid (Keeps w w1) := (Keeps.quiet ((Turn.refl (fun _ => False) w).drewN nq)).trans g4
    clear hq g3 g4 a1 a2 a5 HS
    go_wp2_with fail
    rw [show ((n : Int) + (c : Int)) = ((n + c : Nat) : Int) from by omega]
    refine (add_any A S n cap c (n + c - cap + 1) i (n + c) nx zl' bl' w1 g1 g2 hi (by omega) (by omega) hni (by omega) hS1).mono ?_
    rintro r w2 ⟨rfl, k1, k2, k3, k4⟩
    have HE : Hid (∃ zl' bl', St A S n cap (c + 1) (upd nx i (n + c)) zl' bl' w2 ∧ Turn (fun k => k = A ∨ S + 1 ≤ k) w w2 ∧ Keeps w w2) := by
      rw [show n + c - cap + 1 = n + (c + 1) - cap from by omega] at k1
      exact ⟨zl', bl', ⟨k1, k2, Nat.lt_of_lt_of_le hS1 k3.size⟩, T1.out.trans k3, T2.out.trans k4⟩
    clear k1 k2 k3 k4 g1 g2 T1 T2
    go_wp2_with fail
    go_ret
    exact ⟨ret_int (by omega), HE.out⟩
  · go_enter Yba.func10, Yba.ntmps10
    go_wp2_with fail
    go_quiet ((go_at_call 12; exact Calls.quiet_of_same (overflows_any A c _ a5)))
    go_wp2_with fail
    have hq := HS.out.quiet ((Turn.refl (fun _ => False) w).drewN nq)
    have T1 : Hid (Turn (fun k => k = A ∨ S + 1 ≤ k) w (w.drewN nq)) := (Turn.refl _ w).drewN nq
    have T2 : Hid (Keeps w (w.drewN nq)) := Keeps.quiet ((Turn.refl (fun _ => False) w).drewN nq)
    rw [show ((n : Int) + (c : Int)) = ((n + c : Nat) : Int) from by omega]
    refine (add_any A S n cap c (n + c - cap) i (n + c) nx zl bl _ hq.arr hq.bk hi (by omega) (by omega) hni (by omega) hq.hS).mono ?_
    rintro r w2 ⟨rfl, k1, k2, k3, k4⟩
    have HE : Hid (∃ zl' bl', St A S n cap (c + 1) (upd nx i (n + c)) zl' bl' w2 ∧ Turn (fun k => k = A ∨ S + 1 ≤ k) w w2 ∧ Keeps w w2) := by
      rw [show n + c - cap = n + (c + 1) - cap from by omega] at k1
      exact ⟨zl, bl, ⟨k1, k2, Nat.lt_of_lt_of_le hq.hS k3.size⟩, T1.out.trans k3, T2.out.trans k4⟩
    clear k1 k2 k3 k4 hq T1 T2 HS a1 a2 a5
    go_wp2_with fail
    go_ret
    exact ⟨ret_int (by omega), HE.out⟩
end Go.Proofs.Ybulkdety
