/- The closure over the blockers, where the target has a state. -/
import Derived.Test.YbulkdetkGreatDoorB6
namespace Go.Proofs.YbulkdetkGreatDoor
open Go.RowKit Go.Shelf
set_option linter.unusedVariables false
set_option linter.unusedSimpArgs false
attribute [local go_sem] Oper.semAt_some

set_option maxRecDepth 100000 in
set_option maxHeartbeats 4000000 in
theorem blk_same (n l s A X m Q G cap T m' : Nat) (g i g' : Bool) (W : World) (hn : 3 ≤ n) (hK : Caps W s A X (some ⟨Q, 0, none⟩) m g i) (hH : Hold W Q G cap T m' g') (hP : PEq W T X true) :
    CallsIn Fence.wide n Ybaz.prog 47 #[.func (.yield l) #[] #[], .pointer (some ⟨s + 1 + 1, 0, none⟩), .pointer (some ⟨s + 1 + 1 + 1, 0, none⟩), .pointer (some ⟨s + 1 + 1 + 1 + 1, 0, none⟩), .pointer (some ⟨s, 0, none⟩), .pointer (some ⟨s + 1, 0, none⟩), .pointer (some ⟨s + 1 + 1 + 1 + 1 + 1, 0, none⟩)] W fun e W' => (∃ v, e = .returned v) ∧ Grew W W' := by
  have h1 : 1 ≤ n := by omega
  have hW1 : Grew W (W.alloc (.cells #[.func (.yield l) #[] #[]] 147)) := (Turn.refl _ W).alloc _
  have hW2 : Grew W ((W.alloc (.cells #[.func (.yield l) #[] #[]] 147)).alloc (.cells #[.pointer (some ⟨T, 0, none⟩), .int .u8 m', .bool g', .bool false] 101)) := hW1.alloc _
  have hK1 := hK.grew hW1
  have hK2 := hK.grew hW2
  have hH1 := hH.grew hW1
  have hp := (hP _ hW2).2
  obtain ⟨cs, hG, g0, g1, g2, g3⟩ := hH1.row
  have c0 := (hG.cell 0).trans g0
  have c1 := (hG.cell 1).trans g1
  have c2 := (hG.cell 2).trans g2
  have c3 := (hG.cell 3).trans g3
  have q0 := hH1.q.c0
  have q1 := hH1.q.c1
  clear hG g0 g1 g2 g3
  have b1 := hK1.q.c0
  have b2 := hK1.tx.c0
  have b30 := hK1.want.c0
  have b31 := hK1.want.c1
  have b32 := hK1.want.c2
  have b4 := hK1.lt.c0
  have b50 := hK1.target.c0
  have b51 := hK1.target.c1
  have b52 := hK1.target.c2
  have b53 : (W.alloc (.cells #[.func (.yield l) #[] #[]] 147)).cell? ⟨s + 1, 3, none⟩ = some (.int .i64 0) := (hK1.target.cell 3).trans rfl
  have b54 : (W.alloc (.cells #[.func (.yield l) #[] #[]] 147)).cell? ⟨s + 1, 4, none⟩ = some (.string { data := #[] }) := (hK1.target.cell 4).trans rfl
  have d1 := hK2.q.c0
  have d2 := hK2.tx.c0
  have d30 := hK2.want.c0
  have d31 := hK2.want.c1
  have d32 := hK2.want.c2
  have d4 := hK2.lt.c0
  have d50 := hK2.target.c0
  have d51 := hK2.target.c1
  have d52 := hK2.target.c2
  have d53 : ((W.alloc (.cells #[.func (.yield l) #[] #[]] 147)).alloc (.cells #[.pointer (some ⟨T, 0, none⟩), .int .u8 m', .bool g', .bool false] 101)).cell? ⟨s + 1, 3, none⟩ = some (.int .i64 0) := (hK2.target.cell 3).trans rfl
  have d54 : ((W.alloc (.cells #[.func (.yield l) #[] #[]] 147)).alloc (.cells #[.pointer (some ⟨T, 0, none⟩), .int .u8 m', .bool g', .bool false] 101)).cell? ⟨s + 1, 4, none⟩ = some (.string { data := #[] }) := (hK2.target.cell 4).trans rfl
  clear hK1 hK2 hH1
  refine callsIn_of_wp_marks Ybaz.func47 rfl trivial ?_ rfl
  simp only [Ybaz.ntmps47, List.size_toArray, List.length_cons, List.length_nil, Nat.reduceAdd, Nat.reduceSub, Array.replicate_succ, Array.replicate_zero, List.push_toArray, List.append_toArray, List.nil_append, List.cons_append]
  gi_wp2_with fail
  refine wpIn_loop_rounds 2 ?_
  rw [roundsIn_succ]
  gi_wp2_with fail
  refine ⟨trivial, ?_⟩
  gi_wp2_with fail
  refine ⟨fun _ _ => trivial, ?_⟩
  gi_wp2_with fail
  rw [roundsIn_succ]
  gi_wp2_with fail
  refine ⟨trivial, ?_⟩
  refine (runs_in (n - 1) A X m g i _).mono ?_
  rintro e w3 ⟨rfl, hw3, hb3⟩
  gi_wp2_with fail
  have hB0 : Grew W w3 := hW2.trans hw3
  try simp only [World.size_alloc] at hb3
  refine wpIn_rangeFunc_ownF (F := Fence.wide) (α := Empty) rfl h1 (gf := 53) rfl trivial (enters_of Ybaz.func53 (by kernel_rfl) rfl)
    (runs_stops (n - 1) w3.heap.size _ _ _ _ w3 hb3) belowK_t (belowK_b (Nat.le_refl _)) (Below.refl _ _) (fun x => x.elim)
    (fun _ W' => Below w3.heap.size w3 W') (fun _ _ _ => False) (ownFrom_below (Nat.le_refl _) (Nat.le_refl _)) (fun _ _ _ _ _ hs _ _ => hs)
    (Below.refl _ _) (fun x => x.elim) (fun _ x => x.elim) (fun _ _ x => x.elim) ?done (fun _ _ _ _ _ h => h.elim)
  rintro D ys W' hD rfl hB hD'
  have hg := hB0.trans (Turn.ofBelow hB (Nat.le_refl _))
  have hDW := Nat.le_trans hB0.size hD
  have hq := (hK.grew hg).q.c0
  have hah := (hK.grew hg).ahead.c0
  have hqw := (hH.grew hg).q.c1
  gi_wp2_with fail
  gi_region
  all_goals
    gi_wp2_with fail
    refine wpIn_loop_rounds 1 ?_
    rw [roundsIn_succ]
    gi_wp2_with fail
    refine ⟨by simp, .inl ⟨_, _, rfl, run_takeDeferred (show W'.drew.heap[D]? = _ from hD'), ?_⟩⟩
    exact ⟨_, results_none rfl _ _ _, ⟨_, rfl⟩, hg.drew.putObj (Or.inr hDW) _⟩

set_option maxRecDepth 100000 in
set_option maxHeartbeats 4000000 in
theorem blk_free (n l s A X m Q G cap T m' : Nat) (g : Bool) (W : World) (hn : 3 ≤ n) (hK : Caps W s A X (some ⟨Q, 0, none⟩) m g true) (hH : Hold W Q G cap T m' false) (hP : PEq W T X false) :
    CallsIn Fence.wide n Ybaz.prog 47 #[.func (.yield l) #[] #[], .pointer (some ⟨s + 1 + 1, 0, none⟩), .pointer (some ⟨s + 1 + 1 + 1, 0, none⟩), .pointer (some ⟨s + 1 + 1 + 1 + 1, 0, none⟩), .pointer (some ⟨s, 0, none⟩), .pointer (some ⟨s + 1, 0, none⟩), .pointer (some ⟨s + 1 + 1 + 1 + 1 + 1, 0, none⟩)] W fun e W' => (∃ v, e = .returned v) ∧ Grew W W' := by
  have h1 : 1 ≤ n := by omega
  have hW1 : Grew W (W.alloc (.cells #[.func (.yield l) #[] #[]] 147)) := (Turn.refl _ W).alloc _
  have hW2 : Grew W ((W.alloc (.cells #[.func (.yield l) #[] #[]] 147)).alloc (.cells #[.pointer (some ⟨T, 0, none⟩), .int .u8 m', .bool false, .bool false] 101)) := hW1.alloc _
  have hK1 := hK.grew hW1
  have hK2 := hK.grew hW2
  have hH1 := hH.grew hW1
  have hp := (hP _ hW2).2
  obtain ⟨cs, hG, g0, g1, g2, g3⟩ := hH1.row
  have c0 := (hG.cell 0).trans g0
  have c1 := (hG.cell 1).trans g1
  have c2 := (hG.cell 2).trans g2
  have c3 := (hG.cell 3).trans g3
  have q0 := hH1.q.c0
  have q1 := hH1.q.c1
  clear hG g0 g1 g2 g3
  have b1 := hK1.q.c0
  have b2 := hK1.tx.c0
  have b30 := hK1.want.c0
  have b31 := hK1.want.c1
  have b32 := hK1.want.c2
  have b4 := hK1.lt.c0
  have b50 := hK1.target.c0
  have b51 := hK1.target.c1
  have b52 := hK1.target.c2
  have b53 : (W.alloc (.cells #[.func (.yield l) #[] #[]] 147)).cell? ⟨s + 1, 3, none⟩ = some (.int .i64 0) := (hK1.target.cell 3).trans rfl
  have b54 : (W.alloc (.cells #[.func (.yield l) #[] #[]] 147)).cell? ⟨s + 1, 4, none⟩ = some (.string { data := #[] }) := (hK1.target.cell 4).trans rfl
  have d1 := hK2.q.c0
  have d2 := hK2.tx.c0
  have d30 := hK2.want.c0
  have d31 := hK2.want.c1
  have d32 := hK2.want.c2
  have d4 := hK2.lt.c0
  have d50 := hK2.target.c0
  have d51 := hK2.target.c1
  have d52 := hK2.target.c2
  have d53 : ((W.alloc (.cells #[.func (.yield l) #[] #[]] 147)).alloc (.cells #[.pointer (some ⟨T, 0, none⟩), .int .u8 m', .bool false, .bool false] 101)).cell? ⟨s + 1, 3, none⟩ = some (.int .i64 0) := (hK2.target.cell 3).trans rfl
  have d54 : ((W.alloc (.cells #[.func (.yield l) #[] #[]] 147)).alloc (.cells #[.pointer (some ⟨T, 0, none⟩), .int .u8 m', .bool false, .bool false] 101)).cell? ⟨s + 1, 4, none⟩ = some (.string { data := #[] }) := (hK2.target.cell 4).trans rfl
  clear hK1 hK2 hH1
  refine callsIn_of_wp_marks Ybaz.func47 rfl trivial ?_ rfl
  simp only [Ybaz.ntmps47, List.size_toArray, List.length_cons, List.length_nil, Nat.reduceAdd, Nat.reduceSub, Array.replicate_succ, Array.replicate_zero, List.push_toArray, List.append_toArray, List.nil_append, List.cons_append]
  gi_wp2_with fail
  refine wpIn_loop_rounds 2 ?_
  rw [roundsIn_succ]
  gi_wp2_with fail
  refine ⟨trivial, ?_⟩
  refine (callsIn_wide.2 (conflicts_insert m m' g false false _)).mono ?_
  rintro e w4 ⟨rfl, hw4⟩
  have hW4 := hW2.trans hw4
  have hK4 := hK.grew hW4
  have e1 := hK4.q.c0
  have e2 := hK4.tx.c0
  have e30 := hK4.want.c0
  have e31 := hK4.want.c1
  have e32 := hK4.want.c2
  have e4 := hK4.lt.c0
  have e50 := hK4.target.c0
  have e51 := hK4.target.c1
  have e52 := hK4.target.c2
  have e53 : w4.cell? ⟨s + 1, 3, none⟩ = some (.int .i64 0) := (hK4.target.cell 3).trans rfl
  have e54 : w4.cell? ⟨s + 1, 4, none⟩ = some (.string { data := #[] }) := (hK4.target.cell 4).trans rfl
  clear hK4
  gi_wp2_with fail
  refine ⟨fun _ _ => trivial, ?_⟩
  gi_wp2_with fail
  rw [roundsIn_succ]
  gi_wp2_with fail
  refine ⟨trivial, ?_⟩
  refine (runs_in (n - 1) A X m g true _).mono ?_
  rintro e w3 ⟨rfl, hw3, hb3⟩
  gi_wp2_with fail
  have hB0 : Grew W w3 := hW4.trans hw3
  try simp only [World.size_alloc] at hb3
  refine wpIn_rangeFunc_ownF (F := Fence.wide) (α := Empty) rfl h1 (gf := 53) rfl trivial (enters_of Ybaz.func53 (by kernel_rfl) rfl)
    (runs_stops (n - 1) w3.heap.size _ _ _ _ w3 hb3) belowK_t (belowK_b (Nat.le_refl _)) (Below.refl _ _) (fun x => x.elim)
    (fun _ W' => Below w3.heap.size w3 W') (fun _ _ _ => False) (ownFrom_below (Nat.le_refl _) (Nat.le_refl _)) (fun _ _ _ _ _ hs _ _ => hs)
    (Below.refl _ _) (fun x => x.elim) (fun _ x => x.elim) (fun _ _ x => x.elim) ?done (fun _ _ _ _ _ h => h.elim)
  rintro D ys W' hD rfl hB hD'
  have hg := hB0.trans (Turn.ofBelow hB (Nat.le_refl _))
  have hDW := Nat.le_trans hB0.size hD
  have hq := (hK.grew hg).q.c0
  have hah := (hK.grew hg).ahead.c0
  have hqw := (hH.grew hg).q.c1
  gi_wp2_with fail
  gi_region
  all_goals
    gi_wp2_with fail
    refine wpIn_loop_rounds 1 ?_
    rw [roundsIn_succ]
    gi_wp2_with fail
    refine ⟨by simp, .inl ⟨_, _, rfl, run_takeDeferred (show W'.drew.heap[D]? = _ from hD'), ?_⟩⟩
    exact ⟨_, results_none rfl _ _ _, ⟨_, rfl⟩, hg.drew.putObj (Or.inr hDW) _⟩

set_option maxRecDepth 100000 in
set_option maxHeartbeats 4000000 in
theorem blk_yield (n l s A X m Q G cap T m' : Nat) (g : Bool) (R : World → Prop) (W : World) (hn : 3 ≤ n) (hK : Caps W s A X (some ⟨Q, 0, none⟩) m g true) (hH : Hold W Q G cap T m' true) (hP : PEq W T X false)
    (hY : ∀ W1, Grew W W1 → YieldAt Fence.wide (n - 1) Ybaz.prog l #[.pointer (some ⟨T, 0, none⟩)] W1 fun e W' => e = .returned (.bool false) ∧ R W') :
    CallsIn Fence.wide n Ybaz.prog 47 #[.func (.yield l) #[] #[], .pointer (some ⟨s + 1 + 1, 0, none⟩), .pointer (some ⟨s + 1 + 1 + 1, 0, none⟩), .pointer (some ⟨s + 1 + 1 + 1 + 1, 0, none⟩), .pointer (some ⟨s, 0, none⟩), .pointer (some ⟨s + 1, 0, none⟩), .pointer (some ⟨s + 1 + 1 + 1 + 1 + 1, 0, none⟩)] W fun e W' => (∃ v, e = .returned v) ∧ R W' := by
  have h1 : 1 ≤ n := by omega
  have hW1 : Grew W (W.alloc (.cells #[.func (.yield l) #[] #[]] 147)) := (Turn.refl _ W).alloc _
  have hW2 : Grew W ((W.alloc (.cells #[.func (.yield l) #[] #[]] 147)).alloc (.cells #[.pointer (some ⟨T, 0, none⟩), .int .u8 m', .bool true, .bool false] 101)) := hW1.alloc _
  have hK1 := hK.grew hW1
  have hK2 := hK.grew hW2
  have hH1 := hH.grew hW1
  have hp := (hP _ hW2).2
  obtain ⟨cs, hG, g0, g1, g2, g3⟩ := hH1.row
  have c0 := (hG.cell 0).trans g0
  have c1 := (hG.cell 1).trans g1
  have c2 := (hG.cell 2).trans g2
  have c3 := (hG.cell 3).trans g3
  have q0 := hH1.q.c0
  have q1 := hH1.q.c1
  clear hG g0 g1 g2 g3
  have b1 := hK1.q.c0
  have b2 := hK1.tx.c0
  have b30 := hK1.want.c0
  have b31 := hK1.want.c1
  have b32 := hK1.want.c2
  have b4 := hK1.lt.c0
  have b50 := hK1.target.c0
  have b51 := hK1.target.c1
  have b52 := hK1.target.c2
  have b53 : (W.alloc (.cells #[.func (.yield l) #[] #[]] 147)).cell? ⟨s + 1, 3, none⟩ = some (.int .i64 0) := (hK1.target.cell 3).trans rfl
  have b54 : (W.alloc (.cells #[.func (.yield l) #[] #[]] 147)).cell? ⟨s + 1, 4, none⟩ = some (.string { data := #[] }) := (hK1.target.cell 4).trans rfl
  have d1 := hK2.q.c0
  have d2 := hK2.tx.c0
  have d30 := hK2.want.c0
  have d31 := hK2.want.c1
  have d32 := hK2.want.c2
  have d4 := hK2.lt.c0
  have d50 := hK2.target.c0
  have d51 := hK2.target.c1
  have d52 := hK2.target.c2
  have d53 : ((W.alloc (.cells #[.func (.yield l) #[] #[]] 147)).alloc (.cells #[.pointer (some ⟨T, 0, none⟩), .int .u8 m', .bool true, .bool false] 101)).cell? ⟨s + 1, 3, none⟩ = some (.int .i64 0) := (hK2.target.cell 3).trans rfl
  have d54 : ((W.alloc (.cells #[.func (.yield l) #[] #[]] 147)).alloc (.cells #[.pointer (some ⟨T, 0, none⟩), .int .u8 m', .bool true, .bool false] 101)).cell? ⟨s + 1, 4, none⟩ = some (.string { data := #[] }) := (hK2.target.cell 4).trans rfl
  clear hK1 hK2 hH1
  refine callsIn_of_wp_marks Ybaz.func47 rfl trivial ?_ rfl
  simp only [Ybaz.ntmps47, List.size_toArray, List.length_cons, List.length_nil, Nat.reduceAdd, Nat.reduceSub, Array.replicate_succ, Array.replicate_zero, List.push_toArray, List.append_toArray, List.nil_append, List.cons_append]
  gi_wp2_with fail
  refine wpIn_loop_rounds 2 ?_
  rw [roundsIn_succ]
  gi_wp2_with fail
  refine ⟨trivial, ?_⟩
  refine (callsIn_wide.2 (conflicts_insert m m' g true false _)).mono ?_
  rintro e w4 ⟨rfl, hw4⟩
  have hW4 := hW2.trans hw4
  obtain ⟨fn, tmps, assign, body, hy, hR⟩ := hY w4 hW4
  have y0 : w4.cell? ⟨W.heap.size, 0, none⟩ = some (.func (.yield l) #[] #[]) := ((IsBlk.new W #[.func (.yield l) #[] #[]] 147).turn (((Turn.refl (fun _ => False) _).alloc _).trans hw4) (by simp)).c0
  have y1 : w4.cell? ⟨W.heap.size + 1, 0, none⟩ = some (.pointer (some ⟨T, 0, none⟩)) := by
    have h := ((IsBlk.new (W.alloc (.cells #[.func (.yield l) #[] #[]] 147)) #[.pointer (some ⟨T, 0, none⟩), .int .u8 m', .bool true, .bool false] 101).turn hw4 (by simp)).c0
    simpa using h
  gi_wp2_with fail
  refine hR.mono ?_
  rintro e W' ⟨rfl, hr⟩
  gi_wp2_with fail
  exact ⟨_, results_none rfl _ _ _, ⟨_, rfl⟩, hr⟩
end Go.Proofs.YbulkdetkGreatDoor
