/- The check of the state. -/
import Derived.Test.YbulkdetkGreatDoorB16
namespace Go.Proofs.YbulkdetkGreatDoor
open Go.RowKit
set_option linter.unusedVariables false
set_option linter.unusedSimpArgs false

set_option maxRecDepth 100000 in
set_option maxHeartbeats 4000000 in
theorem state_free (N X A L M cM T : Nat) (s : Int) (m : Nat) (g : Bool) (w : World) (hB : Base N X A L M cM T s w) (hF : Free L T w) :
    Calls Ybaz.prog 8 #[.pointer (some ⟨A, 0, none⟩), .pointer (some ⟨T, 0, none⟩), (.agg #[.string { data := #[116] }, .bool false, .int .u8 0, .int .i64 0, .string { data := #[] }]), .bool false, .int .u8 m, .bool g] w fun e w' => e = .returned (.bool true) ∧ Grew w w' := by
  have hW : Grew w (w.alloc (.cells #[.string { data := #[116] }, .bool false, .int .u8 0, .int .i64 0, .string { data := #[] }] 69)) := (Turn.refl _ w).alloc _
  have b1 := IsBlk.new w #[.string { data := #[116] }, .bool false, .int .u8 0, .int .i64 0, .string { data := #[] }] 69
  have hB1 := hB.grew hW
  have a2 := hB1.a.c2
  have a3 := hB1.a.c3
  obtain ⟨clk, hL1, hT1⟩ := hF.grew hW
  have hAlt := hB.a.lt
  go_enter Ybaz.func8, Ybaz.ntmps8
  generalize hWW : w.alloc (.cells #[.string { data := #[116] }, .bool false, .int .u8 0, .int .i64 0, .string { data := #[] }] 69) = W at *
  have x0 := b1.c0
  have x1 := b1.c1
  have x2 := b1.c2
  have x3 := b1.c3
  have x4 : W.cell? ⟨w.heap.size, 4, none⟩ = some (.string { data := #[] }) := (b1.cell 4).trans rfl
  have hm : ∀ ty, (Builtin.len_ #[79] ty #[.map (some M)]).run Ybaz.prog W = _ := fun ty => len_map ty Ybaz.underlying79 hB1.tm
  have hl : (Instr.lookup 78 (.map (some L)) (.agg #[.string { data := #[116] }, .bool false, .int .u8 0, .int .i64 0, .string { data := #[] }]) false).run Ybaz.prog W.drew = _ := lookup_none (hL1.turn (Turn.refl (fun _ => False) W).drew (by simp))
  have hm2 : ∀ ty, (Builtin.len_ #[78] ty #[.map (some L)]).run Ybaz.prog W.drew = _ := fun ty => len_map ty Ybaz.underlying78 (hL1.turn (Turn.refl (fun _ => False) W).drew (by simp))
  have l0 := hT1.cell
  clear hB hF hB1 hL1 hT1 b1
  go_wp2_with fail
  go_region
  all_goals
    go_wp2_with fail
    go_ret
    exact ⟨rfl, hW.drew⟩

set_option maxRecDepth 100000 in
set_option maxHeartbeats 4000000 in
theorem state_held (N X A L M cM T : Nat) (s : Int) (m : Nat) (g : Bool) (Q G cap b clk : Nat) (v : Value) (w : World) (hB : Base N X A L M cM T s w) (hH : HeldBy N X L T m g Q G cap b clk v w) :
    Calls Ybaz.prog 8 #[.pointer (some ⟨A, 0, none⟩), .pointer (some ⟨T, 0, none⟩), (.agg #[.string { data := #[116] }, .bool false, .int .u8 0, .int .i64 0, .string { data := #[] }]), .bool true, .int .u8 m, .bool g] w fun e w' => e = .returned (.bool true) ∧ Grew w w' := by
  have hW : Grew w (w.alloc (.cells #[.string { data := #[116] }, .bool false, .int .u8 0, .int .i64 0, .string { data := #[] }] 69)) := (Turn.refl _ w).alloc _
  have b1 := IsBlk.new w #[.string { data := #[116] }, .bool false, .int .u8 0, .int .i64 0, .string { data := #[] }] 69
  have hB1 := hB.grew hW
  have a2 := hB1.a.c2
  have a3 := hB1.a.c3
  have hH1 := hH.grew hW
  have hAlt := hB.a.lt
  go_enter Ybaz.func8, Ybaz.ntmps8
  generalize hWW : w.alloc (.cells #[.string { data := #[116] }, .bool false, .int .u8 0, .int .i64 0, .string { data := #[] }] 69) = W at *
  have x0 := b1.c0
  have x1 := b1.c1
  have x2 := b1.c2
  have x3 := b1.c3
  have x4 : W.cell? ⟨w.heap.size, 4, none⟩ = some (.string { data := #[] }) := (b1.cell 4).trans rfl
  have dr := (Turn.refl (fun _ => False) W).drew
  have hm : ∀ ty, (Builtin.len_ #[79] ty #[.map (some M)]).run Ybaz.prog W = _ := fun ty => len_map ty Ybaz.underlying79 hB1.tm
  have hl : (Instr.lookup 78 (.map (some L)) (.agg #[.string { data := #[116] }, .bool false, .int .u8 0, .int .i64 0, .string { data := #[] }]) false).run Ybaz.prog W.drew = _ := lookup_one (hH1.map.turn dr (by simp))
  have hm2 : ∀ ty, (Builtin.len_ #[78] ty #[.map (some L)]).run Ybaz.prog W.drew = _ := fun ty => len_map ty Ybaz.underlying78 (hH1.map.turn dr (by simp))
  have hp := (PEq.same W T W.drew dr).2
  have l0 := hH1.txn.cell
  have q0 := hH1.hold.q.c0
  have q1 := hH1.hold.q.c1
  obtain ⟨cs, hG, g0, g1, g2, g3⟩ := hH1.hold.row
  have c0 := (hG.cell 0).trans g0
  have c1 := (hG.cell 1).trans g1
  have c2 := (hG.cell 2).trans g2
  have c3 := (hG.cell 3).trans g3
  obtain ⟨K, cp, cs', rfl, hK, k0, k1, k2, k3, k4⟩ := hH1.one
  have d0 := (hK.cell 0).trans k0
  have d1 := (hK.cell 1).trans k1
  have d2 := (hK.cell 2).trans k2
  have d3 := (hK.cell 3).trans k3
  have d4 := (hK.cell 4).trans k4
  clear hB hH hB1 hH1 b1 hG hK g0 g1 g2 g3 k0 k1 k2 k3 k4
  go_wp2_with fail
  go_region
  go_wp2_with fail
  go_quiet (fail)
  go_wp2_with fail
  go_ret
  exact ⟨rfl, hW.drew.drewN _⟩

theorem state_any (N X A L M cM T : Nat) (s : Int) (has : Bool) (m : Nat) (g : Bool) (w : World) (hB : Base N X A L M cM T s w) (hS : St N X L T has m g w) :
    Calls Ybaz.prog 8 #[.pointer (some ⟨A, 0, none⟩), .pointer (some ⟨T, 0, none⟩), (.agg #[.string { data := #[116] }, .bool false, .int .u8 0, .int .i64 0, .string { data := #[] }]), .bool has, .int .u8 m, .bool g] w fun e w' => e = .returned (.bool true) ∧ Grew w w' := by
  rcases hS with ⟨rfl, rfl, rfl, hF⟩ | ⟨rfl, Q, G, cap, b, clk, v, hH⟩
  · exact state_free N X A L M cM T s 0 false w hB hF
  · exact state_held N X A L M cM T s m g Q G cap b clk v w hB hH
end Go.Proofs.YbulkdetkGreatDoor
