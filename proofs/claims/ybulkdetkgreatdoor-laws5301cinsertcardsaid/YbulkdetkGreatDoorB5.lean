/- What is held at a target. -/
import Derived.Test.YbulkdetkGreatDoorB4
import Derived.OpenShut
namespace Go.Proofs.YbulkdetkGreatDoor
open Go.RowKit
set_option linter.unusedVariables false
set_option linter.unusedSimpArgs false

theorem IsBlk.c0 {w : World} {b : Nat} {u : Value} {t : TypeId} {cs : List Value} (h : IsBlk w b (u :: cs).toArray t) : w.cell? ⟨b, 0, none⟩ = some u := (h.cell 0).trans rfl
theorem IsBlk.c1 {w : World} {b : Nat} {u v : Value} {t : TypeId} {cs : List Value} (h : IsBlk w b (u :: v :: cs).toArray t) : w.cell? ⟨b, 1, none⟩ = some v := (h.cell 1).trans rfl
theorem IsBlk.c2 {w : World} {b : Nat} {u v x : Value} {t : TypeId} {cs : List Value} (h : IsBlk w b (u :: v :: x :: cs).toArray t) : w.cell? ⟨b, 2, none⟩ = some x := (h.cell 2).trans rfl

set_option maxRecDepth 100000 in
set_option maxHeartbeats 1000000 in
theorem waitingAt_nil (w : World) : Calls Ybaz.prog 19 #[.pointer none] w fun e w' => e = .returned (.int .i64 0) ∧ w' = w := by
  go_enter Ybaz.func19, Ybaz.ntmps19
  go_wp2_with fail
  go_ret
  exact ⟨rfl, rfl⟩
set_option maxRecDepth 100000 in
set_option maxHeartbeats 1000000 in
theorem waitingAt_one (Q : Nat) (v : Value) (w : World) (h : IsBlk w Q #[v, .slice none 0 0] 99) : Calls Ybaz.prog 19 #[.pointer (some ⟨Q, 0, none⟩)] w fun e w' => e = .returned (.int .i64 0) ∧ w' = w := by
  have h1 := h.c1
  go_enter Ybaz.func19, Ybaz.ntmps19
  go_wp2_with fail
  go_ret
  exact ⟨rfl, rfl⟩

/-- What the last statement of 'held' leans on, in whatever world has grown. -/
theorem held_facts (W : World) (s m : Nat) (g : Bool) (hC : Cov W) (h6 : IsBlk W s #[.string { data := #[116] }, .bool false, .int .u8 0, .int .i64 0, .string { data := #[] }] 69) (h8 : IsBlk W (s + 1) #[.int .u8 0, .bool false, .bool false] 73) (h9 : IsBlk W (s + 1 + 1) #[.int .u8 m, .bool g, .bool false] 73) (w3 : World) (h : Grew W w3) :
    (Cov w3 ∧ w3.cell? ⟨s + 1 + 1, 0, none⟩ = some (.int .u8 m) ∧ w3.cell? ⟨s + 1 + 1, 1, none⟩ = some (.bool g) ∧ w3.cell? ⟨s + 1 + 1, 2, none⟩ = some (.bool false)) ∧
    (w3.cell? ⟨s + 1, 0, none⟩ = some (.int .u8 0) ∧ w3.cell? ⟨s + 1, 1, none⟩ = some (.bool false) ∧ w3.cell? ⟨s + 1, 2, none⟩ = some (.bool false)) ∧
    (w3.frozen? ⟨s + 1, 0, none⟩ = false ∧ w3.frozen? ⟨s + 1, 1, none⟩ = false ∧ w3.frozen? ⟨s + 1, 2, none⟩ = false) ∧
    (∀ v0 v1 v2 : Value, IsBlk (((w3.setCell ⟨s + 1, 0, none⟩ v0).setCell ⟨s + 1, 1, none⟩ v1).setCell ⟨s + 1, 2, none⟩ v2) (s + 1) #[v0, v1, v2] 73) := by
  have h8' := h8.turn h (by simp)
  have h9' := h9.turn h (by simp)
  exact ⟨⟨hC.grew h, h9'.c0, h9'.c1, h9'.c2⟩, ⟨h8'.c0, h8'.c1, h8'.c2⟩, ⟨h8'.frozen 0, h8'.frozen 1, h8'.frozen 2⟩, fun v0 v1 v2 => by simpa using ((h8'.set 0 v0).set 1 v1).set 2 v2⟩

set_option maxRecDepth 100000 in
set_option maxHeartbeats 4000000 in
theorem held_nil (A X : Nat) (w : World) (hC : Cov w) :
    Calls Ybaz.prog 16 #[.pointer (some ⟨A, 0, none⟩), .pointer (some ⟨X, 0, none⟩), (.agg #[.string { data := #[116] }, .bool false, .int .u8 0, .int .i64 0, .string { data := #[] }]), .pointer none] w fun e w' => e = .returned (.agg #[.int .u8 0, .bool false, .bool false]) ∧ Grew w w' := by
  have hW : Grew w (((w.alloc (.cells #[.string { data := #[116] }, .bool false, .int .u8 0, .int .i64 0, .string { data := #[] }] 69)).alloc (.cells #[.int .u8 0, .bool false, .bool false] 73)).alloc (.cells #[.int .u8 0, .bool false, .bool false] 73)) := (((Turn.refl _ w).alloc _).alloc _).alloc _
  have h6 : IsBlk (((w.alloc (.cells #[.string { data := #[116] }, .bool false, .int .u8 0, .int .i64 0, .string { data := #[] }] 69)).alloc (.cells #[.int .u8 0, .bool false, .bool false] 73)).alloc (.cells #[.int .u8 0, .bool false, .bool false] 73)) w.heap.size #[.string { data := #[116] }, .bool false, .int .u8 0, .int .i64 0, .string { data := #[] }] 69 := (IsBlk.new w _ 69).turn (((Turn.refl (fun _ => False) _).alloc _).alloc _) (by simp)
  have h8 : IsBlk (((w.alloc (.cells #[.string { data := #[116] }, .bool false, .int .u8 0, .int .i64 0, .string { data := #[] }] 69)).alloc (.cells #[.int .u8 0, .bool false, .bool false] 73)).alloc (.cells #[.int .u8 0, .bool false, .bool false] 73)) (w.heap.size + 1) #[.int .u8 0, .bool false, .bool false] 73 := by
    have := (IsBlk.new (w.alloc (.cells #[.string { data := #[116] }, .bool false, .int .u8 0, .int .i64 0, .string { data := #[] }] 69)) #[.int .u8 0, .bool false, .bool false] 73).turn ((Turn.refl (fun _ => False) _).alloc (.cells #[.int .u8 0, .bool false, .bool false] 73)) (by simp)
    simpa using this
  have h9 : IsBlk (((w.alloc (.cells #[.string { data := #[116] }, .bool false, .int .u8 0, .int .i64 0, .string { data := #[] }] 69)).alloc (.cells #[.int .u8 0, .bool false, .bool false] 73)).alloc (.cells #[.int .u8 0, .bool false, .bool false] 73)) (w.heap.size + 1 + 1) #[.int .u8 0, .bool false, .bool false] 73 := by
    have := (IsBlk.new ((w.alloc (.cells #[.string { data := #[116] }, .bool false, .int .u8 0, .int .i64 0, .string { data := #[] }] 69)).alloc (.cells #[.int .u8 0, .bool false, .bool false] 73)) #[.int .u8 0, .bool false, .bool false] 73)
    simpa using this
  have HF := held_facts _ w.heap.size 0 false (hC.grew hW) h6 h8 h9
  go_enter Ybaz.func16, Ybaz.ntmps16
  go_wp2_with fail
  generalize ((w.alloc (.cells #[.string { data := #[116] }, .bool false, .int .u8 0, .int .i64 0, .string { data := #[] }] 69)).alloc (.cells #[.int .u8 0, .bool false, .bool false] 73)).alloc (.cells #[.int .u8 0, .bool false, .bool false] 73) = W at *
  have a0 := h6.c0
  have a1 := h6.c1
  have a2 := h6.c2
  have a3 : W.cell? ⟨w.heap.size, 3, none⟩ = some (.int .i64 0) := (h6.cell 3).trans rfl
  have a4 : W.cell? ⟨w.heap.size, 4, none⟩ = some (.string { data := #[] }) := (h6.cell 4).trans rfl
  obtain ⟨⟨_, e1, e2, e3⟩, _⟩ := HF W (Turn.refl _ _)
  have HF' : Hid (∀ w3, Grew W w3 → _) := HF
  clear HF h6 h8 h9 hC
  go_region_with (first | (go_at_call 33; refine (runsHold_any A X _).mono ?_; rintro e w3 ⟨rfl, h3⟩; replace h3 : Grew W w3 := ((Turn.refl (fun _ => False) W).drew).trans h3; obtain ⟨⟨HC3, e1, e2, e3⟩, _⟩ := HF'.out w3 h3) | (go_at_call 32; refine (lockJoin_any 0 0 false false false false (by decide) (by decide) _ HC3).mono ?_; rintro e w4 ⟨rfl, h4⟩; obtain ⟨_, ⟨r0, r1, r2⟩, ⟨f0, f1, f2⟩, HB⟩ := HF'.out w4 (h3.trans h4)))
  all_goals
    rw [joinb_zero]
    go_wp2_with fail
    have hR1 := HB (.int .u8 ((0 : Nat) : Int)) (.bool (false || false)) (.bool false)
    have hTT : Grew w (((w4.setCell ⟨w.heap.size + 1, 0, none⟩ (.int .u8 ((0 : Nat) : Int))).setCell ⟨w.heap.size + 1, 1, none⟩ (.bool (false || false))).setCell ⟨w.heap.size + 1, 2, none⟩ (.bool false)) :=
      ((((hW.trans h3).trans h4).setCell (p := ⟨w.heap.size + 1, 0, none⟩) (Or.inr (by simp)) _).setCell (p := ⟨w.heap.size + 1, 1, none⟩) (Or.inr (by simp)) _).setCell (p := ⟨w.heap.size + 1, 2, none⟩) (Or.inr (by simp)) _
    simp only [Bool.or_false] at hR1 hTT
    simp only [show ((0 : Nat) : Int) = 0 from rfl] at hR1 hTT
    have r0 := hR1.c0
    have r1 := hR1.c1
    have r2 := hR1.c2
    refine bodyPost_ret ?_ rfl ⟨rfl, hTT⟩
    simp [results, Ybaz.f16, go_sem, r0, r1, r2]

set_option maxRecDepth 100000 in
set_option maxHeartbeats 4000000 in
theorem held_one' (A X Q G cap T m m' : Nat) (g b g' : Bool) (w : World) (hC : Cov w) (hm' : m' < 5) (em : (if b then m else 0) = m') (eg : (b && g) = g') (hH : Hold w Q G cap T m g) (hP : PEq w T X b) :
    Calls Ybaz.prog 16 #[.pointer (some ⟨A, 0, none⟩), .pointer (some ⟨X, 0, none⟩), (.agg #[.string { data := #[116] }, .bool false, .int .u8 0, .int .i64 0, .string { data := #[] }]), .pointer (some ⟨Q, 0, none⟩)] w fun e w' => e = .returned (.agg #[.int .u8 m', .bool g', .bool false]) ∧ Grew w w' := by
  have hW : Grew w (((w.alloc (.cells #[.string { data := #[116] }, .bool false, .int .u8 0, .int .i64 0, .string { data := #[] }] 69)).alloc (.cells #[.int .u8 0, .bool false, .bool false] 73)).alloc (.cells #[.int .u8 0, .bool false, .bool false] 73)) := (((Turn.refl _ w).alloc _).alloc _).alloc _
  have h6 : IsBlk (((w.alloc (.cells #[.string { data := #[116] }, .bool false, .int .u8 0, .int .i64 0, .string { data := #[] }] 69)).alloc (.cells #[.int .u8 0, .bool false, .bool false] 73)).alloc (.cells #[.int .u8 0, .bool false, .bool false] 73)) w.heap.size #[.string { data := #[116] }, .bool false, .int .u8 0, .int .i64 0, .string { data := #[] }] 69 := (IsBlk.new w _ 69).turn (((Turn.refl (fun _ => False) _).alloc _).alloc _) (by simp)
  have h8 : IsBlk (((w.alloc (.cells #[.string { data := #[116] }, .bool false, .int .u8 0, .int .i64 0, .string { data := #[] }] 69)).alloc (.cells #[.int .u8 0, .bool false, .bool false] 73)).alloc (.cells #[.int .u8 0, .bool false, .bool false] 73)) (w.heap.size + 1) #[.int .u8 0, .bool false, .bool false] 73 := by
    have := (IsBlk.new (w.alloc (.cells #[.string { data := #[116] }, .bool false, .int .u8 0, .int .i64 0, .string { data := #[] }] 69)) #[.int .u8 0, .bool false, .bool false] 73).turn ((Turn.refl (fun _ => False) _).alloc (.cells #[.int .u8 0, .bool false, .bool false] 73)) (by simp)
    simpa using this
  have h9 : IsBlk (((w.alloc (.cells #[.string { data := #[116] }, .bool false, .int .u8 0, .int .i64 0, .string { data := #[] }] 69)).alloc (.cells #[.int .u8 0, .bool false, .bool false] 73)).alloc (.cells #[.int .u8 0, .bool false, .bool false] 73)) (w.heap.size + 1 + 1) #[.int .u8 0, .bool false, .bool false] 73 := by
    have := (IsBlk.new ((w.alloc (.cells #[.string { data := #[116] }, .bool false, .int .u8 0, .int .i64 0, .string { data := #[] }] 69)).alloc (.cells #[.int .u8 0, .bool false, .bool false] 73)) #[.int .u8 0, .bool false, .bool false] 73)
    simpa using this
  go_enter Ybaz.func16, Ybaz.ntmps16
  go_wp2_with fail
  generalize ((w.alloc (.cells #[.string { data := #[116] }, .bool false, .int .u8 0, .int .i64 0, .string { data := #[] }] 69)).alloc (.cells #[.int .u8 0, .bool false, .bool false] 73)).alloc (.cells #[.int .u8 0, .bool false, .bool false] 73) = W0 at *
  refine (qheld_one Q G cap T X m g b _ (hH.grew hW) (hP.grew hW)).mono ?_
  rintro e w1 ⟨rfl, k1⟩
  have h6 := h6.turn k1 (by simp)
  have h8 := h8.turn k1 (by simp)
  have h9 := h9.turn k1 (by simp)
  have hW := hW.trans k1
  have n0 := h9.c0
  have n1 := h9.c1
  have n2 := h9.c2
  have f0 := h9.frozen 0
  have f1 := h9.frozen 1
  have f2 := h9.frozen 2
  rw [em, eg]
  clear hH hP em eg
  go_wp2_with fail
  have tt : Turn (· = w.heap.size + 1 + 1) w1 (((w1.setCell ⟨w.heap.size + 1 + 1, 0, none⟩ (.int .u8 m')).setCell ⟨w.heap.size + 1 + 1, 1, none⟩ (.bool g')).setCell ⟨w.heap.size + 1 + 1, 2, none⟩ (.bool false)) := ((Turn.set1 _ _ _ _).trans (Turn.set1 _ _ _ _)).trans (Turn.set1 _ _ _ _)
  have h6 := h6.turn tt (by omega)
  have h8 := h8.turn tt (by omega)
  have h9 : IsBlk (((w1.setCell ⟨w.heap.size + 1 + 1, 0, none⟩ (.int .u8 m')).setCell ⟨w.heap.size + 1 + 1, 1, none⟩ (.bool g')).setCell ⟨w.heap.size + 1 + 1, 2, none⟩ (.bool false)) (w.heap.size + 1 + 1) #[.int .u8 m', .bool g', .bool false] 73 := by simpa using ((h9.set 0 (.int .u8 m')).set 1 (.bool g')).set 2 (.bool false)
  have hW := hW.then tt (fun i hi e => by omega)
  have HF := held_facts _ w.heap.size m' g' (hC.grew hW) h6 h8 h9
  clear tt n0 n1 n2 f0 f1 f2 k1
  generalize ((w1.setCell ⟨w.heap.size + 1 + 1, 0, none⟩ (.int .u8 m')).setCell ⟨w.heap.size + 1 + 1, 1, none⟩ (.bool g')).setCell ⟨w.heap.size + 1 + 1, 2, none⟩ (.bool false) = W at *
  have a0 := h6.c0
  have a1 := h6.c1
  have a2 := h6.c2
  have a3 : W.cell? ⟨w.heap.size, 3, none⟩ = some (.int .i64 0) := (h6.cell 3).trans rfl
  have a4 : W.cell? ⟨w.heap.size, 4, none⟩ = some (.string { data := #[] }) := (h6.cell 4).trans rfl
  obtain ⟨⟨_, e1, e2, e3⟩, _⟩ := HF W (Turn.refl _ _)
  have HF' : Hid (∀ w3, Grew W w3 → _) := HF
  clear HF h6 h8 h9 hC
  go_region_with (first | (go_at_call 33; refine (runsHold_any A X _).mono ?_; rintro e w3 ⟨rfl, h3⟩; replace h3 : Grew W w3 := ((Turn.refl (fun _ => False) W).drew).trans h3; obtain ⟨⟨HC3, e1, e2, e3⟩, _⟩ := HF'.out w3 h3) | (go_at_call 32; refine (lockJoin_any m' 0 g' false false false hm' (by decide) _ HC3).mono ?_; rintro e w4 ⟨rfl, h4⟩; obtain ⟨_, ⟨r0, r1, r2⟩, ⟨f0, f1, f2⟩, HB⟩ := HF'.out w4 (h3.trans h4)))
  all_goals
    rw [joinb_zero]
    go_wp2_with fail
    have hR1 := HB (.int .u8 m') (.bool (g' || false)) (.bool false)
    have hTT : Grew w (((w4.setCell ⟨w.heap.size + 1, 0, none⟩ (.int .u8 m')).setCell ⟨w.heap.size + 1, 1, none⟩ (.bool (g' || false))).setCell ⟨w.heap.size + 1, 2, none⟩ (.bool false)) :=
      ((((hW.trans h3).trans h4).setCell (p := ⟨w.heap.size + 1, 0, none⟩) (Or.inr (by simp)) _).setCell (p := ⟨w.heap.size + 1, 1, none⟩) (Or.inr (by simp)) _).setCell (p := ⟨w.heap.size + 1, 2, none⟩) (Or.inr (by simp)) _
    simp only [Bool.or_false] at hR1 hTT
    have r0 := hR1.c0
    have r1 := hR1.c1
    have r2 := hR1.c2
    refine bodyPost_ret ?_ rfl ⟨rfl, hTT⟩
    simp [results, Ybaz.f16, go_sem, r0, r1, r2]

theorem held_one (A X Q G cap T m : Nat) (g b : Bool) (w : World) (hC : Cov w) (hm : m < 5) (hH : Hold w Q G cap T m g) (hP : PEq w T X b) :
    Calls Ybaz.prog 16 #[.pointer (some ⟨A, 0, none⟩), .pointer (some ⟨X, 0, none⟩), (.agg #[.string { data := #[116] }, .bool false, .int .u8 0, .int .i64 0, .string { data := #[] }]), .pointer (some ⟨Q, 0, none⟩)] w fun e w' => e = .returned (.agg #[.int .u8 ((if b then m else 0 : Nat) : Int), .bool (b && g), .bool false]) ∧ Grew w w' :=
  held_one' A X Q G cap T m _ g b _ w hC (by split <;> omega) rfl rfl hH hP
end Go.Proofs.YbulkdetkGreatDoor
