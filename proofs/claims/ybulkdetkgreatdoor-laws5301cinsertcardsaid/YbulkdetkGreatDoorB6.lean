/- Whether anybody blocks: a range over a function, within which there is another. -/
import Derived.Test.YbulkdetkGreatDoorB5
import Derived.RangeFuncNested
import Derived.RangeFuncBound
import Derived.RangeFuncCalls
import Derived.RangeFuncLeaves
import Derived.Shelf.Abstract
import Derived.WalkKit
import Derived.OwnWalkIn
import Derived.TacticsInMore
import Derived.RegionIn
import Derived.LoopNIn
import Derived.LoopIn
namespace Go.Proofs.YbulkdetkGreatDoor
open Go.RowKit Go.Shelf
set_option linter.unusedVariables false
set_option linter.unusedSimpArgs false
attribute [local go_sem] Oper.semAt_some

theorem Turn.ofBelow {N : Nat} {w w' : World} (h : Below N w w') (hN : w.heap.size ≤ N) : Grew w w' :=
  ⟨h.os, h.tape, h.output, h.size, fun k hk _ => h.block k (by omega)⟩
theorem Turn.toBelow {N : Nat} {w w' : World} (h : Grew w w') (hN : N ≤ w.heap.size) : Below N w w' := h.below hN (fun _ x => x.elim)

theorem Turn.putObj {M : Nat → Prop} {a w : World} (h : Turn M a w) {b : Nat} (hb : M b ∨ a.heap.size ≤ b) (o : Obj) : Turn M a (w.putObj b o) :=
  ⟨h.os, h.tape, h.output, by simpa using h.size, fun k hk hM => by
    rw [World.putObj_heap_other (fun e => by rcases hb with hb | hb; exact hM (e ▸ hb); omega)]
    exact h.block k hk hM⟩

/-- The boxes that the closure has captured. -/
structure Caps (W : World) (s A X : Nat) (qv : Option Addr) (m : Nat) (g i : Bool) : Prop where
  lt : IsBlk W s #[.pointer (some ⟨A, 0, none⟩)] 23
  target : IsBlk W (s + 1) #[.string { data := #[116] }, .bool false, .int .u8 0, .int .i64 0, .string { data := #[] }] 69
  q : IsBlk W (s + 1 + 1) #[.pointer qv] 93
  tx : IsBlk W (s + 1 + 1 + 1) #[.pointer (some ⟨X, 0, none⟩)] 25
  want : IsBlk W (s + 1 + 1 + 1 + 1) #[.int .u8 m, .bool g, .bool i] 73
  ahead : IsBlk W (s + 1 + 1 + 1 + 1 + 1) #[.int .i64 0] 3

theorem Caps.grew {W W' : World} {s A X : Nat} {qv : Option Addr} {m : Nat} {g i : Bool} (h : Caps W s A X qv m g i) (k : Grew W W') : Caps W' s A X qv m g i :=
  ⟨h.lt.turn k (by simp), h.target.turn k (by simp), h.q.turn k (by simp), h.tx.turn k (by simp), h.want.turn k (by simp), h.ahead.turn k (by simp)⟩

set_option maxRecDepth 100000 in
set_option maxHeartbeats 1000000 in
theorem runs1_in (n l B5 B4 B2 B3 : Nat) (W : World) (h5 : IsBlk W B5 #[.string { data := #[116] }, .bool false, .int .u8 0, .int .i64 0, .string { data := #[] }] 69) :
    CallsIn Fence.wide n Ybaz.prog 53 #[.func (.yield l) #[] #[], .pointer (some ⟨B5, 0, none⟩), .pointer (some ⟨B4, 0, none⟩), .pointer (some ⟨B2, 0, none⟩), .pointer (some ⟨B3, 0, none⟩)] W fun e W' => (∃ v, e = .returned v) ∧ W' = W := by
  have a1 := h5.c1
  refine callsIn_of_wp Ybaz.func53 rfl trivial ?_ rfl
  simp only [Ybaz.ntmps53, List.size_toArray, List.length_cons, List.length_nil, Nat.reduceAdd, Nat.reduceSub, Array.replicate_succ, Array.replicate_zero, List.push_toArray, List.append_toArray, List.nil_append, List.cons_append]
  gi_wp2
  refine bodyPost_ret (results_none rfl _ _ _) rfl ?_
  exact ⟨⟨_, rfl⟩, rfl⟩

theorem runs_stops (n n₀ B5 B4 B2 B3 : Nat) (w : World) (h5 : IsBlk w B5 #[.string { data := #[116] }, .bool false, .int .u8 0, .int .i64 0, .string { data := #[] }] 69) :
    SeqStopsK Fence.wide n Ybaz.prog 53 #[.pointer (some ⟨B5, 0, none⟩), .pointer (some ⟨B4, 0, none⟩), .pointer (some ⟨B2, 0, none⟩), .pointer (some ⟨B3, 0, none⟩)] (fun x : Empty => x.elim) (Below n₀) (fun xs => xs = []) (fun _ => False) 0 w := fun l J Jx W hW _ _ _ h0 => by
  refine (runs1_in n l B5 B4 B2 B3 W (h5.same (hW.block B5 h5.lt))).mono ?_
  rintro e W' ⟨he, rfl⟩
  exact ⟨he, .inl ⟨_, rfl, h0⟩⟩

set_option maxRecDepth 100000 in
set_option maxHeartbeats 1000000 in
theorem runs_in (n A X : Nat) (m : Nat) (g i : Bool) (w : World) :
    CallsIn Fence.wide n Ybaz.prog 49 #[.pointer (some ⟨A, 0, none⟩), (.agg #[.string { data := #[116] }, .bool false, .int .u8 0, .int .i64 0, .string { data := #[] }]), .pointer (some ⟨X, 0, none⟩), .agg #[.int .u8 m, .bool g, .bool i]] w fun e w' =>
      e = .returned (.func (.func 53) #[] #[.pointer (some ⟨w.heap.size + 1, 0, none⟩), .pointer (some ⟨w.heap.size, 0, none⟩), .pointer (some ⟨w.heap.size + 1 + 1, 0, none⟩), .pointer (some ⟨w.heap.size + 1 + 1 + 1, 0, none⟩)]) ∧ Grew w w' ∧ IsBlk w' (w.heap.size + 1) #[.string { data := #[116] }, .bool false, .int .u8 0, .int .i64 0, .string { data := #[] }] 69 := by
  have hB : IsBlk ((((w.alloc (.cells #[.pointer (some ⟨A, 0, none⟩)] 23)).alloc (.cells #[.string { data := #[116] }, .bool false, .int .u8 0, .int .i64 0, .string { data := #[] }] 69)).alloc (.cells #[.pointer (some ⟨X, 0, none⟩)] 25)).alloc (.cells #[.int .u8 m, .bool g, .bool i] 73)) (w.heap.size + 1) #[.string { data := #[116] }, .bool false, .int .u8 0, .int .i64 0, .string { data := #[] }] 69 := by
    have := (IsBlk.new (w.alloc (.cells #[.pointer (some ⟨A, 0, none⟩)] 23)) #[.string { data := #[116] }, .bool false, .int .u8 0, .int .i64 0, .string { data := #[] }] 69).turn (((Turn.refl (fun _ => False) _).alloc (.cells #[.pointer (some ⟨X, 0, none⟩)] 25)).alloc (.cells #[.int .u8 m, .bool g, .bool i] 73)) (by simp)
    simpa using this
  refine callsIn_of_wp Ybaz.func49 rfl trivial ?_ rfl
  simp only [Ybaz.ntmps49, List.size_toArray, List.length_cons, List.length_nil, Nat.reduceAdd, Nat.reduceSub, Array.replicate_succ, Array.replicate_zero, List.push_toArray, List.append_toArray, List.nil_append, List.cons_append]
  gi_wp2
  go_ret
  exact ⟨rfl, ((((Turn.refl _ w).alloc _).alloc _).alloc _).alloc _, hB⟩

set_option maxRecDepth 100000 in
set_option maxHeartbeats 2000000 in
theorem blk_nil (n l s A X m : Nat) (g i : Bool) (W : World) (hn : 3 ≤ n) (hK : Caps W s A X none m g i) :
    CallsIn Fence.wide n Ybaz.prog 47 #[.func (.yield l) #[] #[], .pointer (some ⟨s + 1 + 1, 0, none⟩), .pointer (some ⟨s + 1 + 1 + 1, 0, none⟩), .pointer (some ⟨s + 1 + 1 + 1 + 1, 0, none⟩), .pointer (some ⟨s, 0, none⟩), .pointer (some ⟨s + 1, 0, none⟩), .pointer (some ⟨s + 1 + 1 + 1 + 1 + 1, 0, none⟩)] W fun e W' => (∃ v, e = .returned v) ∧ Grew W W' := by
  have h1 : 1 ≤ n := by omega
  have hW1 : Grew W (W.alloc (.cells #[.func (.yield l) #[] #[]] 147)) := (Turn.refl _ W).alloc _
  have hK1 := hK.grew hW1
  have b1 := hK1.q.c0
  have b2 := hK1.tx.c0
  have b30 := hK1.want.c0
  have b31 := hK1.want.c1
  have b32 := hK1.want.c2
  have b4 := hK1.lt.c0
  have b50 := hK1.target.c0
  have b51 := hK1.target.c1
  have b52 := hK1.target.c2
  have b53 : (W.alloc (.cells #[.func (.yield l) #[] #[]] 147)).cell? ⟨s + 1, 3, none⟩ = some (.int .i64 0) := (hK1.target.cell 3).trans rfl
  have b54 : (W.alloc (.cells #[.func (.yield l) #[] #[]] 147)).cell? ⟨s + 1, 4, none⟩ = some (.string { data := #[] }) := (hK1.target.cell 4).trans rfl
  refine callsIn_of_wp_marks Ybaz.func47 rfl trivial ?_ rfl
  simp only [Ybaz.ntmps47, List.size_toArray, List.length_cons, List.length_nil, Nat.reduceAdd, Nat.reduceSub, Array.replicate_succ, Array.replicate_zero, List.push_toArray, List.append_toArray, List.nil_append, List.cons_append]
  gi_wp2_with fail
  refine ⟨trivial, ?_⟩
  refine (runs_in (n - 1) A X m g i _).mono ?_
  rintro e w3 ⟨rfl, hw3, hb3⟩
  gi_wp2_with fail
  have hB0 : Grew W w3 := hW1.trans hw3
  simp only [World.size_alloc] at hb3
  refine wpIn_rangeFunc_ownF (F := Fence.wide) (α := Empty) rfl h1 (gf := 53) rfl trivial (enters_of Ybaz.func53 (by kernel_rfl) rfl)
    (runs_stops (n - 1) w3.heap.size _ _ _ _ w3 hb3) belowK_t (belowK_b (Nat.le_refl _)) (Below.refl _ _) (fun x => x.elim)
    (fun _ W' => Below w3.heap.size w3 W') (fun _ _ _ => False) (ownFrom_below (Nat.le_refl _) (Nat.le_refl _)) (fun _ _ _ _ _ hs _ _ => hs)
    (Below.refl _ _) (fun x => x.elim) (fun _ x => x.elim) (fun _ _ x => x.elim) ?done (fun _ _ _ _ _ h => h.elim)
  rintro D ys W' hD rfl hB hD'
  have hg := hB0.trans (Turn.ofBelow hB (Nat.le_refl _))
  have hDW := Nat.le_trans hB0.size hD
  have hq := (hK.grew hg).q.c0
  gi_wp2_with fail
  refine ⟨by simp, .inl ⟨_, _, rfl, run_takeDeferred hD', ?_⟩⟩
  exact ⟨_, results_none rfl _ _ _, ⟨_, rfl⟩, hg.putObj (Or.inr hDW) _⟩
end Go.Proofs.YbulkdetkGreatDoor
