/- The target's state: found, made, forgotten. -/
import Derived.Test.YbulkdetkGreatDoorB9
import Derived.BigRegion
namespace Go.Proofs.YbulkdetkGreatDoor
open Go.RowKit
set_option linter.unusedVariables false
set_option linter.unusedSimpArgs false

/-- The lock table. -/
abbrev ltc (s : Int) (L M : Nat) : Array Value := #[.int .i32 s, .int .u32 0, .map (some L), .map (some M)]

theorem IsBlk.c3 {w : World} {b : Nat} {u v x y : Value} {t : TypeId} {cs : List Value} (h : IsBlk w b (u :: v :: x :: y :: cs).toArray t) : w.cell? ⟨b, 3, none⟩ = some y := (h.cell 3).trans rfl

set_option maxRecDepth 100000 in
set_option maxHeartbeats 2000000 in
theorem queue_has (A L M Q clk b : Nat) (s : Int) (w : World) (hA : IsBlk w A (ltc s L M) 88) (hL : IsMap w L #[{ key := (.agg #[.string { data := #[116] }, .bool false, .int .u8 0, .int .i64 0, .string { data := #[] }]), val := .pointer (some ⟨Q, 0, none⟩), born := b }] clk) :
    Calls Ybaz.prog 20 #[.pointer (some ⟨A, 0, none⟩), (.agg #[.string { data := #[116] }, .bool false, .int .u8 0, .int .i64 0, .string { data := #[] }])] w fun e w' => e = .returned (.pointer (some ⟨Q, 0, none⟩)) ∧ Grew w w' := by
  have hW : Grew w (w.alloc (.cells #[.string { data := #[116] }, .bool false, .int .u8 0, .int .i64 0, .string { data := #[] }] 69)) := (Turn.refl _ w).alloc _
  have a2 := (hA.turn hW (by simp)).c2
  have hl : (Instr.lookup 78 (.map (some L)) (.agg #[.string { data := #[116] }, .bool false, .int .u8 0, .int .i64 0, .string { data := #[] }]) false).run Ybaz.prog (w.alloc (.cells #[.string { data := #[116] }, .bool false, .int .u8 0, .int .i64 0, .string { data := #[] }] 69)).drew = _ := lookup_one (hL.turn hW.drew (by simp))
  have hlt := hA.lt
  clear hA hL
  go_enter Ybaz.func20, Ybaz.ntmps20
  go_wp2_with fail
  go_region
  all_goals
    go_wp2_with fail
    go_ret
    exact ⟨rfl, hW.drew⟩

set_option maxRecDepth 100000 in
set_option maxHeartbeats 2000000 in
theorem queue_new (A L M clk : Nat) (s : Int) (w : World) (hA : IsBlk w A (ltc s L M) 88) (hL : IsMap w L #[] clk) :
    Calls Ybaz.prog 20 #[.pointer (some ⟨A, 0, none⟩), (.agg #[.string { data := #[116] }, .bool false, .int .u8 0, .int .i64 0, .string { data := #[] }])] w fun e w' => ∃ Q, e = .returned (.pointer (some ⟨Q, 0, none⟩)) ∧ w.heap.size ≤ Q ∧ IsBlk w' Q #[.slice none 0 0, .slice none 0 0] 99 ∧ IsMap w' L #[{ key := (.agg #[.string { data := #[116] }, .bool false, .int .u8 0, .int .i64 0, .string { data := #[] }]), val := .pointer (some ⟨Q, 0, none⟩), born := clk }] (clk + 1) ∧ Turn (· = L) w w' := by
  have hW : Grew w (w.alloc (.cells #[.string { data := #[116] }, .bool false, .int .u8 0, .int .i64 0, .string { data := #[] }] 69)) := (Turn.refl _ w).alloc _
  have a2 := (hA.turn hW (by simp)).c2
  have hl : (Instr.lookup 78 (.map (some L)) (.agg #[.string { data := #[116] }, .bool false, .int .u8 0, .int .i64 0, .string { data := #[] }]) false).run Ybaz.prog (w.alloc (.cells #[.string { data := #[116] }, .bool false, .int .u8 0, .int .i64 0, .string { data := #[] }] 69)).drew = _ := lookup_none (hL.turn hW.drew (by simp))
  have hlt := hA.lt
  go_enter Ybaz.func20, Ybaz.ntmps20
  go_wp2_with fail
  go_region
  all_goals
    go_wp2_with fail
    have hW1 : Grew w (((w.alloc (.cells #[.string { data := #[116] }, .bool false, .int .u8 0, .int .i64 0, .string { data := #[] }] 69)).alloc (.cells #[.slice none 0 0, .slice none 0 0] 99)).drew) := (hW.alloc _).drew
    have hB1 : IsBlk (((w.alloc (.cells #[.string { data := #[116] }, .bool false, .int .u8 0, .int .i64 0, .string { data := #[] }] 69)).alloc (.cells #[.slice none 0 0, .slice none 0 0] 99)).drew) w.heap.size #[.string { data := #[116] }, .bool false, .int .u8 0, .int .i64 0, .string { data := #[] }] 69 := (IsBlk.new w _ 69).turn (((Turn.refl (fun _ => False) _).alloc _).drew) (by simp)
    have hQ1 : IsBlk (((w.alloc (.cells #[.string { data := #[116] }, .bool false, .int .u8 0, .int .i64 0, .string { data := #[] }] 69)).alloc (.cells #[.slice none 0 0, .slice none 0 0] 99)).drew) (w.heap.size + 1) #[.slice none 0 0, .slice none 0 0] 99 := by
      have := (IsBlk.new (w.alloc (.cells #[.string { data := #[116] }, .bool false, .int .u8 0, .int .i64 0, .string { data := #[] }] 69)) #[.slice none 0 0, .slice none 0 0] 99).turn ((Turn.refl (fun _ => False) _).drew) (by simp)
      simpa using this
    clear a2 hl
    generalize ((w.alloc (.cells #[.string { data := #[116] }, .bool false, .int .u8 0, .int .i64 0, .string { data := #[] }] 69)).alloc (.cells #[.slice none 0 0, .slice none 0 0] 99)).drew = W at *
    have a2 := (hA.turn hW1 (by simp)).c2
    have hL1 := hL.turn hW1 (by simp)
    have hu : (Instr.mapUpdate 78 (.map (some L)) (.agg #[.string { data := #[116] }, .bool false, .int .u8 0, .int .i64 0, .string { data := #[] }]) (.pointer (some ⟨w.heap.size + 1, 0, none⟩))).run Ybaz.prog W.drew = _ := update_none _ (hL1.turn (Turn.refl (fun _ => False) W).drew (by simp))
    have hTu : Turn (· = L) W (W.drew.putObj L (.map #[{ key := (.agg #[.string { data := #[116] }, .bool false, .int .u8 0, .int .i64 0, .string { data := #[] }]), val := .pointer (some ⟨w.heap.size + 1, 0, none⟩), born := clk }] (clk + 1))) := (Turn.refl (· = L) W).drew.putObj (Or.inl rfl) _
    have hMu : IsMap (W.drew.putObj L (.map #[{ key := (.agg #[.string { data := #[116] }, .bool false, .int .u8 0, .int .i64 0, .string { data := #[] }]), val := .pointer (some ⟨w.heap.size + 1, 0, none⟩), born := clk }] (clk + 1))) L #[{ key := (.agg #[.string { data := #[116] }, .bool false, .int .u8 0, .int .i64 0, .string { data := #[] }]), val := .pointer (some ⟨w.heap.size + 1, 0, none⟩), born := clk }] (clk + 1) := World.putObj_heap_same hL1.lt
    have hQ2 := hQ1.turn hTu (fun e => hL1.ne hQ1 e.symm)
    have hB2 := hB1.turn hTu (fun e => hL1.ne hB1 e.symm)
    have hT2 := (Turn.of_grew (M := (· = L)) hW1).trans hTu
    have x0 := hB1.c0
    have x1 := hB1.c1
    have x2 := hB1.c2
    have x3 := hB1.c3
    have x4 : W.cell? ⟨w.heap.size, 4, none⟩ = some (.string { data := #[] }) := (hB1.cell 4).trans rfl
    have y1 := hB2.c1
    clear hA hL hL1 hB1 hB2 hQ1 hTu hW1 hW
    go_region
    all_goals
      generalize W.drew.putObj L (.map #[{ key := (.agg #[.string { data := #[116] }, .bool false, .int .u8 0, .int .i64 0, .string { data := #[] }]), val := .pointer (some ⟨w.heap.size + 1, 0, none⟩), born := clk }] (clk + 1)) = W2 at *
      go_wp2_with fail
      go_ret
      exact ⟨_, rfl, by omega, hQ2, hMu, hT2⟩

set_option maxRecDepth 100000 in
set_option maxHeartbeats 2000000 in
theorem tidy_has (A Q G cap : Nat) (v : Value) (w : World) (hQ : IsBlk w Q #[.slice (some ⟨G, 0, none⟩) 1 cap, v] 99) :
    Calls Ybaz.prog 22 #[.pointer (some ⟨A, 0, none⟩), (.agg #[.string { data := #[116] }, .bool false, .int .u8 0, .int .i64 0, .string { data := #[] }]), .pointer (some ⟨Q, 0, none⟩)] w fun e w' => e = .returned (.tuple #[]) ∧ Grew w w' := by
  have hW : Grew w (w.alloc (.cells #[.string { data := #[116] }, .bool false, .int .u8 0, .int .i64 0, .string { data := #[] }] 69)) := (Turn.refl _ w).alloc _
  have q0 := (hQ.turn hW (by simp)).c0
  clear hQ
  go_enter Ybaz.func22, Ybaz.ntmps22
  go_wp2_with fail
  refine bodyPost_ret (results_none rfl _ _ _) rfl ?_
  exact ⟨rfl, hW⟩

set_option maxRecDepth 100000 in
set_option maxHeartbeats 2000000 in
theorem tidy_empty (A L M Q clk b : Nat) (s : Int) (p : Value) (w : World) (hA : IsBlk w A (ltc s L M) 88) (hQ : IsBlk w Q #[.slice none 0 0, .slice none 0 0] 99) (hL : IsMap w L #[{ key := (.agg #[.string { data := #[116] }, .bool false, .int .u8 0, .int .i64 0, .string { data := #[] }]), val := p, born := b }] clk) :
    Calls Ybaz.prog 22 #[.pointer (some ⟨A, 0, none⟩), (.agg #[.string { data := #[116] }, .bool false, .int .u8 0, .int .i64 0, .string { data := #[] }]), .pointer (some ⟨Q, 0, none⟩)] w fun e w' => e = .returned (.tuple #[]) ∧ IsMap w' L #[] clk ∧ Turn (· = L) w w' := by
  have hW : Grew w (w.alloc (.cells #[.string { data := #[116] }, .bool false, .int .u8 0, .int .i64 0, .string { data := #[] }] 69)) := (Turn.refl _ w).alloc _
  have hB := IsBlk.new w #[.string { data := #[116] }, .bool false, .int .u8 0, .int .i64 0, .string { data := #[] }] 69
  have hQ := hQ.turn hW (by simp)
  have hA := hA.turn hW (by simp)
  have hL := hL.turn hW (by simp)
  go_enter Ybaz.func22, Ybaz.ntmps22
  generalize hWW : w.alloc (.cells #[.string { data := #[116] }, .bool false, .int .u8 0, .int .i64 0, .string { data := #[] }] 69) = W at *
  have q0 := hQ.c0
  have q1 := hQ.c1
  have a2 := hA.c2
  have x0 := hB.c0
  have x1 := hB.c1
  have x2 := hB.c2
  have x3 := hB.c3
  have x4 : W.cell? ⟨w.heap.size, 4, none⟩ = some (.string { data := #[] }) := (hB.cell 4).trans rfl
  have hd : ∀ ty, (Builtin.delete_ #[78, 69] ty #[.map (some L), (.agg #[.string { data := #[116] }, .bool false, .int .u8 0, .int .i64 0, .string { data := #[] }])]).run Ybaz.prog W.drew = _ := fun ty => delete_one ty (hL.turn (Turn.refl (fun _ => False) W).drew (by simp))
  have hTu : Turn (· = L) W (W.drew.putObj L (.map #[] clk)) := (Turn.refl (· = L) W).drew.putObj (Or.inl rfl) _
  have hMu : IsMap (W.drew.putObj L (.map #[] clk)) L #[] clk := World.putObj_heap_same hL.lt
  have hT2 := (Turn.of_grew (M := (· = L)) hW).trans hTu
  have y1 := (hB.turn hTu (fun e => hL.ne hB e.symm)).c1
  clear hA hQ hL hB hTu hW
  go_wp2_with fail
  go_region
  all_goals
    generalize W.drew.putObj L (.map #[] clk) = W2 at *
    go_wp2_with fail
    go_end0
    exact ⟨rfl, hMu, hT2⟩
end Go.Proofs.YbulkdetkGreatDoor
