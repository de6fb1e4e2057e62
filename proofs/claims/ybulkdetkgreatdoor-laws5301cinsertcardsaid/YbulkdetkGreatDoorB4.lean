/- The index of a holder; what is held. -/
import Derived.Test.YbulkdetkGreatDoorB3
namespace Go.Proofs.YbulkdetkGreatDoor
open Go.RowKit
set_option linter.unusedVariables false
set_option linter.unusedSimpArgs false

set_option maxRecDepth 100000 in
set_option maxHeartbeats 1000000 in
theorem indexFunc_one (Q G cap T X B m : Nat) (g b : Bool) (w : World) (hH : Hold w Q G cap T m g) (hP : PEq w T X b) (hB : w.cell? ⟨B, 0, none⟩ = some (.pointer (some ⟨X, 0, none⟩))) (hlt : B < w.heap.size) :
    Calls Ybaz.prog 50 #[.slice (some ⟨G, 0, none⟩) 1 cap, .func (.func 51) #[] #[.pointer (some ⟨B, 0, none⟩)]] w fun e w' => e = .returned (.int .i64 (if b then 0 else -1)) ∧ Grew w w' := by
  obtain ⟨_, cs, hG, g0, g1, g2, g3⟩ := hH
  have c0 := (hG.cell 0).trans g0
  have c1 := (hG.cell 1).trans g1
  have c2 := (hG.cell 2).trans g2
  have c3 := (hG.cell 3).trans g3
  clear hG g0 g1 g2 g3
  go_enter Ybaz.func50, Ybaz.ntmps50
  go_wp2_with fail
  refine wp_loop_rounds 2 ?_
  rw [rounds_succ]
  go_wp2_with fail
  refine (holder1_any T X B m g false b _ hP hB hlt).mono ?_
  rintro e w' ⟨rfl, hg⟩
  cases b
  · go_wp2_with fail
    rw [rounds_succ]
    go_wp2_with fail
    go_ret
    exact ⟨rfl, hg⟩
  · go_wp2_with fail
    go_ret
    exact ⟨rfl, hg⟩

set_option maxRecDepth 100000 in
set_option maxHeartbeats 1000000 in
theorem indexFunc_none (B : Nat) (w : World) :
    Calls Ybaz.prog 50 #[.slice none 0 0, .func (.func 51) #[] #[.pointer (some ⟨B, 0, none⟩)]] w fun e w' => e = .returned (.int .i64 (-1)) ∧ Grew w w' := by
  go_enter Ybaz.func50, Ybaz.ntmps50
  go_wp2_with fail
  refine wp_loop_rounds 1 ?_
  rw [rounds_succ]
  go_wp2_with fail
  go_ret
  exact ⟨rfl, Turn.refl _ _⟩

set_option maxRecDepth 100000 in
set_option maxHeartbeats 1000000 in
theorem holder_one (Q G cap T X m : Nat) (g b : Bool) (w : World) (hH : Hold w Q G cap T m g) (hP : PEq w T X b) :
    Calls Ybaz.prog 36 #[.pointer (some ⟨Q, 0, none⟩), .pointer (some ⟨X, 0, none⟩)] w fun e w' => e = .returned (.int .i64 (if b then 0 else -1)) ∧ Grew w w' := by
  have hq := (hH.q.cell 0).trans rfl
  have hQ := hH.q.lt
  have hg : Grew w (w.alloc (.cells #[.pointer (some ⟨X, 0, none⟩)] 25)) := (Turn.refl _ w).alloc _
  have hN := (IsBlk.new w #[.pointer (some ⟨X, 0, none⟩)] 25)
  go_enter Ybaz.func36, Ybaz.ntmps36
  go_wp2_with fail
  refine (indexFunc_one Q G cap T X w.heap.size m g b _ (hH.grew hg) (hP.grew hg) (hN.cell 0) hN.lt).mono ?_
  rintro e w' ⟨rfl, hg'⟩
  go_wp2_with fail
  all_goals
    go_ret
    exact ⟨rfl, hg.trans hg'⟩

set_option maxRecDepth 100000 in
set_option maxHeartbeats 1000000 in
theorem holder_none (Q X : Nat) (w : World) (hH : IsBlk w Q #[.slice none 0 0, .slice none 0 0] 99) :
    Calls Ybaz.prog 36 #[.pointer (some ⟨Q, 0, none⟩), .pointer (some ⟨X, 0, none⟩)] w fun e w' => e = .returned (.int .i64 (-1)) ∧ Grew w w' := by
  have hq := (hH.cell 0).trans rfl
  have hQ := hH.lt
  have hg : Grew w (w.alloc (.cells #[.pointer (some ⟨X, 0, none⟩)] 25)) := (Turn.refl _ w).alloc _
  go_enter Ybaz.func36, Ybaz.ntmps36
  go_wp2_with fail
  refine (indexFunc_none w.heap.size _).mono ?_
  rintro e w' ⟨rfl, hg'⟩
  go_wp2_with fail
  go_ret
  exact ⟨rfl, hg.trans hg'⟩

set_option maxRecDepth 100000 in
set_option maxHeartbeats 1000000 in
theorem qheld_one (Q G cap T X m : Nat) (g b : Bool) (w : World) (hH : Hold w Q G cap T m g) (hP : PEq w T X b) :
    Calls Ybaz.prog 31 #[.pointer (some ⟨Q, 0, none⟩), .pointer (some ⟨X, 0, none⟩)] w fun e w' => e = .returned (.agg #[.int .u8 ((if b then m else 0 : Nat) : Int), .bool (b && g), .bool false]) ∧ Grew w w' := by
  have hg : Grew w (w.alloc (.cells #[.int .u8 0, .bool false, .bool false] 73)) := (Turn.refl _ w).alloc _
  have hN := IsBlk.new w #[.int .u8 0, .bool false, .bool false] 73
  have hQs := hH.q.lt
  obtain ⟨cs0, hG0, _⟩ := hH.row
  have hGs := hG0.lt
  go_enter Ybaz.func31, Ybaz.ntmps31
  go_wp2_with fail
  refine (holder_one Q G cap T X m g b _ (hH.grew hg) (hP.grew hg)).mono ?_
  rintro e w' ⟨rfl, hg'⟩
  have hH' := (hH.grew hg).grew hg'
  have hN' := hN.turn hg' (by simp)
  have n0 := (hN'.cell 0).trans rfl
  have n1 := (hN'.cell 1).trans rfl
  have n2 := (hN'.cell 2).trans rfl
  have f0 := hN'.frozen 0
  have f1 := hN'.frozen 1
  have f2 := hN'.frozen 2
  have q0 := (hH'.q.cell 0).trans rfl
  obtain ⟨cs, hG, g0, g1, g2, g3⟩ := hH'.row
  have c1 := (hG.cell 1).trans g1
  have c2 := (hG.cell 2).trans g2
  have c3 := (hG.cell 3).trans g3
  have hT : ∀ v0 v1 v2 : Value, Grew w (((w'.setCell ⟨w.heap.size, 0, none⟩ v0).setCell ⟨w.heap.size, 1, none⟩ v1).setCell ⟨w.heap.size, 2, none⟩ v2) := fun v0 v1 v2 =>
    (((hg.trans hg').setCell (p := ⟨w.heap.size, 0, none⟩) (Or.inr (Nat.le_refl _)) _).setCell (p := ⟨w.heap.size, 1, none⟩) (Or.inr (Nat.le_refl _)) _).setCell (p := ⟨w.heap.size, 2, none⟩) (Or.inr (Nat.le_refl _)) _
  have hR : ∀ v0 v1 v2 : Value, IsBlk (((w'.setCell ⟨w.heap.size, 0, none⟩ v0).setCell ⟨w.heap.size, 1, none⟩ v1).setCell ⟨w.heap.size, 2, none⟩ v2) w.heap.size #[v0, v1, v2] 73 := fun v0 v1 v2 => by
    simpa using ((hN'.set 0 v0).set 1 v1).set 2 v2
  clear hH hH' hN hN' hG g0 g1 g2 g3 hP hg
  cases b
  · go_wp2_with fail
    have hR1 := hR (.int .u8 0) (.bool false) (.bool false)
    have r0 := (hR1.cell 0).trans rfl
    have r1 := (hR1.cell 1).trans rfl
    have r2 := (hR1.cell 2).trans rfl
    refine bodyPost_ret ?_ rfl ⟨rfl, hT _ _ _⟩
    simp [results, Ybaz.f31, go_sem, r0, r1, r2]
  · go_wp2_with fail
    have hR1 := hR (.int .u8 m) (.bool g) (.bool false)
    have r0 := (hR1.cell 0).trans rfl
    have r1 := (hR1.cell 1).trans rfl
    have r2 := (hR1.cell 2).trans rfl
    refine bodyPost_ret ?_ rfl ⟨rfl, hT _ _ _⟩
    simp [results, Ybaz.f31, go_sem, r0, r1, r2]
end Go.Proofs.YbulkdetkGreatDoor
