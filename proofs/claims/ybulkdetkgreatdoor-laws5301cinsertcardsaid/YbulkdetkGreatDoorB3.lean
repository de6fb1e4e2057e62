/- What is held, and the index of a holder. -/
import Derived.Test.YbulkdetkGreatDoorB2
import Derived.LoopN
import Derived.StillTailTactics
import Derived.LaidEqlPtr
import Derived.Laws.StructEq
import Derived.Lib.Builder
namespace Go.Proofs.YbulkdetkGreatDoor
open Go.RowKit
set_option linter.unusedVariables false
set_option linter.unusedSimpArgs false

/-- A region that draws: what only reads goes first, the rest in the text's order. -/
theorem region_tail {P : Program} {id : Nat} {Q : Exit → Act → World → Prop} {a : Act} {w : World} {l : List Oper} (n : Nat) (hm : P.follows .mixedOrders = true) (hB : Region.lexTailB .any l.toArray n = true)
    (h : wpStill P l.toArray w.drew (fun a' => wpList P l.toArray Q (l.drop n) a' w.drew) (l.take n) a) : (Code.region id l.toArray true).wp P Q a w :=
  wp_region_still_tail n hm hB h

set_option maxRecDepth 100000 in
set_option maxHeartbeats 1000000 in
theorem runsHold_any (A T : Nat) (w : World) :
    Calls Ybaz.prog 33 #[.pointer (some ⟨A, 0, none⟩), .pointer (some ⟨T, 0, none⟩), (.agg #[.string { data := #[116] }, .bool false, .int .u8 0, .int .i64 0, .string { data := #[] }])] w fun e w' => e = .returned (.agg #[.int .u8 0, .bool false, .bool false]) ∧ Grew w w' := by
  go_enter Ybaz.func33, Ybaz.ntmps33
  go_wp2_with fail
  refine bodyPost_ret (v := .agg #[.int .u8 0, .bool false, .bool false]) (by simp [results, Ybaz.f33, go_sem]) rfl ?_
  refine ⟨rfl, ?_⟩
  exact (((Turn.refl _ w).alloc _).alloc _).alloc _

set_option maxRecDepth 100000 in
set_option maxHeartbeats 1000000 in
theorem conflicts_insert (m m' : Nat) (g g' i' : Bool) (w : World) :
    Calls Ybaz.prog 48 #[.agg #[.int .u8 m, .bool g, .bool true], .agg #[.int .u8 m', .bool g', .bool i']] w fun e w' => e = .returned (.bool g') ∧ Grew w w' := by
  go_enter Ybaz.func48, Ybaz.ntmps48
  go_wp2_with fail
  go_ret
  refine ⟨rfl, ?_⟩
  exact ((Turn.refl _ w).alloc _).alloc _

set_option maxRecDepth 100000 in
set_option maxHeartbeats 2000000 in
theorem lockJoin_any (a b : Nat) (g g' i i' : Bool) (ha : a < 5) (hb : b < 5) (w : World) (hC : Cov w) :
    Calls Ybaz.prog 32 #[.agg #[.int .u8 a, .bool g, .bool i], .agg #[.int .u8 b, .bool g', .bool i']] w fun e w' => e = .returned (.agg #[.int .u8 (joinb a b : Nat), .bool (g || g'), .bool false]) ∧ Grew w w' := by
  have HC : ∀ x y z : Obj, Cov (((w.alloc x).alloc y).alloc z).drew := fun x y z => hC.grew ((((Turn.refl _ w).alloc _).alloc _).alloc _).drew
  have HT : ∀ x y z : Obj, ∀ v : Value, Grew w ((((w.alloc x).alloc y).alloc z).setCell ⟨w.heap.size + 1 + 1, 0, none⟩ v).drew := fun x y z v => Turn.drew (((((Turn.refl _ w).alloc _).alloc _).alloc _).setCell (p := ⟨w.heap.size + 1 + 1, 0, none⟩) (Or.inr (by simp; omega)) _)
  clear hC
  go_enter Ybaz.func32, Ybaz.ntmps32
  go_wp2_with fail
  cases g
  all_goals
    refine region_tail 12 (by kernel_rfl) (by kernel_rfl) ?_
    simp only [List.take_succ_cons, List.take_zero, List.drop_succ_cons, List.drop_zero]
    iterate 4 still_step
    still_call (join_any a b ha hb _ (HC _ _ _))
    iterate 7 still_step
    refine wpStill_nil ?_
    go_wp2_with fail
    refine bodyPost_ret ?_ rfl ⟨rfl, ?_⟩
    · simp [results, Ybaz.f32, go_sem]
    exact ((((Turn.refl _ w).alloc _).alloc _).alloc _).drew

/-- T alone holds mode m and gap g at the queue Q; nobody waits. -/
structure Hold (w : World) (Q G cap T m : Nat) (g : Bool) : Prop where
  q : IsBlk w Q #[.slice (some ⟨G, 0, none⟩) 1 cap, .slice none 0 0] 99
  row : ∃ cs : Array Value, IsBlk w G cs 101 ∧ cs[0]? = some (.pointer (some ⟨T, 0, none⟩)) ∧ cs[1]? = some (.int .u8 (m : Nat)) ∧ cs[2]? = some (.bool g) ∧ cs[3]? = some (.bool false)

theorem Hold.turn {M : Nat → Prop} {w w' : World} {Q G cap T m : Nat} {g : Bool} (h : Hold w Q G cap T m g) (k : Turn M w w') (hQ : ¬ M Q) (hG : ¬ M G) : Hold w' Q G cap T m g := by
  obtain ⟨q, cs, hb, r⟩ := h
  exact ⟨q.turn k hQ, cs, hb.turn k hG, r⟩
theorem Hold.grew {w w' : World} {Q G cap T m : Nat} {g : Bool} (h : Hold w Q G cap T m g) (k : Grew w w') : Hold w' Q G cap T m g := h.turn k (by simp) (by simp)

theorem run_neq_ptr_other {P : Program} (w : World) {tp te : TypeId} {j : TypeInfo} {a b : Addr} {ca cb : Array Value} {ta tb : TypeId} (hp : P.underlying tp = some (.pointer te)) (hte : P.info? te = some j) (hsz : j.size ≠ 0)
    (hne : a ≠ b) (ha : w.heap[a.block]? = some (.cells ca ta (0, 0))) (hb : w.heap[b.block]? = some (.cells cb tb (0, 0))) :
    (binOp .neq tp (.pointer (some a)) (.pointer (some b))).run P w = .ok (.bool true) w := by
  have h : ∀ d : Nat, (Op.equalIn (d + 1) tp (.pointer (some a)) (.pointer (some b))).run P w = .ok false w := fun d => by
    simp [Op.equalIn, run_underlying hp, sizeOf, typeInfo, hte, hsz, run_sameAddr_other w hne ha hb]
  simp only [binOp]
  simp [Op.equal, Op.maxDepth, h 9999]

/-- Whether the two are one transaction, in whatever world that has grown from w. -/
def PEq (w : World) (T X : Nat) (b : Bool) : Prop := ∀ w', Grew w w' →
  (binOp .eql 25 (.pointer (some ⟨T, 0, none⟩)) (.pointer (some ⟨X, 0, none⟩))).run Ybaz.prog w' = .ok (.bool b) w' ∧
  (binOp .neq 25 (.pointer (some ⟨T, 0, none⟩)) (.pointer (some ⟨X, 0, none⟩))).run Ybaz.prog w' = .ok (.bool (!b)) w'

theorem info65 : (Ybaz.prog.info? 65).map (fun i => (i.zero.isSome, i.size, i.bytes)) = some (true, 60, 744) := by kernel_rfl

theorem PEq.same (w : World) (T : Nat) : PEq w T T true := by
  intro w' _
  obtain ⟨j, hj, _⟩ := Option.map_eq_some_iff.1 info65
  exact ⟨run_eql_ptr_same w' _ Ybaz.underlying25 hj, Go.Lib.run_neq_ptr_same w' _ Ybaz.underlying25 hj⟩
theorem PEq.other {w : World} {T X : Nat} {cs cs' : Array Value} (hne : T ≠ X) (hT : IsBlk w T cs 65) (hX : IsBlk w X cs' 65) : PEq w T X false := by
  intro w' h
  obtain ⟨j, hj, hj2⟩ := Option.map_eq_some_iff.1 info65
  simp only [Prod.mk.injEq] at hj2
  have hne' : (⟨T, 0, none⟩ : Addr) ≠ ⟨X, 0, none⟩ := by simp [hne]
  exact ⟨run_eql_ptr_other w' Ybaz.underlying25 hj (by omega) hne' (hT.turn h (by simp)) (hX.turn h (by simp)), run_neq_ptr_other w' Ybaz.underlying25 hj (by omega) hne' (hT.turn h (by simp)) (hX.turn h (by simp))⟩
theorem PEq.grew {w w' : World} {T X : Nat} {b : Bool} (h : PEq w T X b) (k : Grew w w') : PEq w' T X b := fun w2 h2 => h w2 (k.trans h2)

set_option maxRecDepth 100000 in
set_option maxHeartbeats 1000000 in
theorem holder1_any (T X B m : Nat) (g i b : Bool) (w : World) (hP : PEq w T X b) (hB : w.cell? ⟨B, 0, none⟩ = some (.pointer (some ⟨X, 0, none⟩))) (hlt : B < w.heap.size) :
    Calls Ybaz.prog 51 #[.agg #[.pointer (some ⟨T, 0, none⟩), .int .u8 m, .bool g, .bool i], .pointer (some ⟨B, 0, none⟩)] w fun e w' => e = .returned (.bool b) ∧ Grew w w' := by
  have h1 := (hP _ ((Turn.refl _ w).alloc (.cells #[.pointer (some ⟨T, 0, none⟩), .int .u8 m, .bool g, .bool i] 101))).1
  clear hP
  go_enter Ybaz.func51, Ybaz.ntmps51
  go_wp2_with fail
  go_ret
  exact ⟨rfl, (Turn.refl _ w).alloc _⟩
end Go.Proofs.YbulkdetkGreatDoor
