/- The map of the locks. -/
import Derived.Test.YbulkdetkGreatDoorB8
namespace Go.Proofs.YbulkdetkGreatDoor
open Go.RowKit
set_option linter.unusedVariables false
set_option linter.unusedSimpArgs false

def IsMap (w : World) (L : Nat) (es : Array MapEntry) (clk : Nat) : Prop := w.heap[L]? = some (.map es clk)
theorem IsMap.lt {w : World} {b : Nat} {es : Array MapEntry} {clk : Nat} (h : IsMap w b es clk) : b < w.heap.size := (Array.getElem?_eq_some_iff.1 h).1
theorem IsMap.turn {M : Nat → Prop} {w w' : World} {b : Nat} {es : Array MapEntry} {clk : Nat} (h : IsMap w b es clk) (k : Turn M w w') (hb : ¬ M b) : IsMap w' b es clk := (k.block b h.lt hb).trans h
theorem IsMap.ne {w : World} {b b' : Nat} {es : Array MapEntry} {clk : Nat} {cs : Array Value} {t : TypeId} (h : IsMap w b es clk) (h' : IsBlk w b' cs t) : b ≠ b' := by
  intro e
  subst e
  unfold IsMap at h
  unfold IsBlk at h'
  rw [h] at h'
  simp at h'

theorem checkKey_run (e : Bool) (w : World) : (Instr.checkKey e 10000 69 (.agg #[.string { data := #[116] }, .bool false, .int .u8 0, .int .i64 0, .string { data := #[] }])).run Ybaz.prog w = .ok () w := by
  cases e <;> kernel_rfl
theorem findKey_none (w : World) : (Instr.findKey 69 (.agg #[.string { data := #[116] }, .bool false, .int .u8 0, .int .i64 0, .string { data := #[] }]) []).run Ybaz.prog w = .ok none w := by kernel_rfl
theorem findKey_one (p : Value) (b : Nat) (w : World) : (Instr.findKey 69 (.agg #[.string { data := #[116] }, .bool false, .int .u8 0, .int .i64 0, .string { data := #[] }]) [{ key := (.agg #[.string { data := #[116] }, .bool false, .int .u8 0, .int .i64 0, .string { data := #[] }]), val := p, born := b }]).run Ybaz.prog w = .ok (some (0, p)) w := by kernel_rfl

theorem run_getObj_map {w : World} {L : Nat} {es : Array MapEntry} {clk : Nat} (h : IsMap w L es clk) : (getObj L).run Ybaz.prog w = .ok (.map es clk) w := by
  unfold IsMap at h
  simp [getObj, Sem.run, h]
theorem run_setObj_map {w : World} {L : Nat} {es : Array MapEntry} {clk : Nat} (o : Obj) (h : IsMap w L es clk) : (setObj L o).run Ybaz.prog w = .ok () (w.putObj L o) := by
  unfold IsMap at h
  simp [setObj, Sem.run, h, World.putObj]

theorem lookup_none {w : World} {L clk : Nat} (h : IsMap w L #[] clk) : (Instr.lookup 78 (.map (some L)) (.agg #[.string { data := #[116] }, .bool false, .int .u8 0, .int .i64 0, .string { data := #[] }]) false).run Ybaz.prog w = .ok (.pointer none) w := by
  simp [Instr.lookup, Sem.run_bind, run_underlying Ybaz.underlying78, run_getObj_map h, checkKey_run, findKey_none, Ybaz.zeroValue93, Result.andThen]
theorem lookup_one {w : World} {L clk b : Nat} {p : Value} (h : IsMap w L #[{ key := (.agg #[.string { data := #[116] }, .bool false, .int .u8 0, .int .i64 0, .string { data := #[] }]), val := p, born := b }] clk) : (Instr.lookup 78 (.map (some L)) (.agg #[.string { data := #[116] }, .bool false, .int .u8 0, .int .i64 0, .string { data := #[] }]) false).run Ybaz.prog w = .ok p w := by
  simp [Instr.lookup, Sem.run_bind, run_underlying Ybaz.underlying78, run_getObj_map h, checkKey_run, findKey_one, Result.andThen]
theorem update_none {w : World} {L clk : Nat} (p : Value) (h : IsMap w L #[] clk) : (Instr.mapUpdate 78 (.map (some L)) (.agg #[.string { data := #[116] }, .bool false, .int .u8 0, .int .i64 0, .string { data := #[] }]) p).run Ybaz.prog w = .ok () (w.putObj L (.map #[{ key := (.agg #[.string { data := #[116] }, .bool false, .int .u8 0, .int .i64 0, .string { data := #[] }]), val := p, born := clk }] (clk + 1))) := by
  simp [Instr.mapUpdate, Sem.run_bind, run_underlying Ybaz.underlying78, run_getObj_map h, checkKey_run, findKey_none, Result.andThen, run_setObj_map _ h]
theorem delete_one {w : World} {L clk b : Nat} {p : Value} (ty : TypeId) (h : IsMap w L #[{ key := (.agg #[.string { data := #[116] }, .bool false, .int .u8 0, .int .i64 0, .string { data := #[] }]), val := p, born := b }] clk) : (Builtin.delete_ #[78, 69] ty #[.map (some L), (.agg #[.string { data := #[116] }, .bool false, .int .u8 0, .int .i64 0, .string { data := #[] }])]).run Ybaz.prog w = .ok (.tuple #[]) (w.putObj L (.map #[] clk)) := by
  simp [Builtin.delete_, Sem.run_bind, run_underlying Ybaz.underlying78, run_getObj_map h, checkKey_run, findKey_one, Result.andThen, run_setObj_map _ h]
theorem len_map {w : World} {t k e L clk : Nat} {es : Array MapEntry} (ty : TypeId) (ht : Ybaz.prog.underlying t = some (.map k e)) (h : IsMap w L es clk) : (Builtin.len_ #[t] ty #[.map (some L)]).run Ybaz.prog w = .ok (.int .i64 es.size) w := by
  simp [Builtin.len_, Sem.run_bind, run_underlying ht, run_getObj_map h, Result.andThen, goInt]
end Go.Proofs.YbulkdetkGreatDoor
