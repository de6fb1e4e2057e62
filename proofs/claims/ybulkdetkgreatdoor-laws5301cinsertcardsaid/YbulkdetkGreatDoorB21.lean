/- What the listed variables give: the table 'covers'. -/
import Derived.Test.YbulkdetkGreatDoorB20
import Derived.OpenShut
import Derived.ChangeArms
import Derived.Stop.Joined
import Derived.LaidHandle
import Derived.MakeChecks
namespace Go.Proofs.YbulkdetkGreatDoor
open Go.ChangeShapes Go.WideShapes Go.RowKit
set_option linter.unusedVariables false
set_option linter.unusedSimpArgs false

theorem gCovers : Ybaz.prog.globalNamed "example.com/palimpsest/palimpsest/internal/engine.covers" = some 0 := by kernel_rfl
theorem gComp : Ybaz.prog.globalNamed "example.com/palimpsest/palimpsest/internal/engine.compatible" = some 1 := by kernel_rfl
theorem tCovers : (Ybaz.prog.globals[0]?).map (·.type) = some 121 := by kernel_rfl
theorem tComp : (Ybaz.prog.globals[1]?).map (·.type) = some 121 := by kernel_rfl
theorem cells121 : Ybaz.prog.cellsOf 121 = 25 := by kernel_rfl
theorem cells120 : Ybaz.prog.cellsOf 120 = 5 := by kernel_rfl
theorem cells4 : Ybaz.prog.cellsOf 4 = 1 := by kernel_rfl

/-- A row of five bools, read. -/
theorem row5 {H : Type} {enc : TypeId × Value → H} {W : World} {base : Nat} {spare : Nat → Bool} {held : Bool} {fuel : Nat} {cs : List Value} {x : DataW H × List MemPlace} (h : DataW.trod enc Ybaz.prog W base spare held fuel 120 cs = some x) (f : Nat → Bool) (hx : x.1 = .agg [.lit (.bool (f 0)), .lit (.bool (f 1)), .lit (.bool (f 2)), .lit (.bool (f 3)), .lit (.bool (f 4))]) :
    ∀ b, b < 5 → cs[b]? = some (.bool (f b)) := by
  obtain ⟨xs, m, rfl, rfl, hl, hn, hel⟩ := DataW.trod_array Ybaz.underlying120 h
  intro b hb
  have hxs : xs.map (·.1) = [.lit (.bool (f 0)), .lit (.bool (f 1)), .lit (.bool (f 2)), .lit (.bool (f 3)), .lit (.bool (f 4))] := by simpa using hx
  have hb1 := hel b hb
  rw [cells4] at hb1
  have hlt : b < xs.length := by omega
  rw [List.getElem?_eq_getElem hlt] at hb1
  obtain ⟨v, e1, e2⟩ := DataW.trod_bool Ybaz.underlying4 hb1
  have hv : (xs.map (·.1))[b]? = some (.lit (.bool v)) := by
    rw [List.getElem?_map, List.getElem?_eq_getElem hlt, e2]
    rfl
  have hf : v = f b := by
    rw [hxs] at hv
    match b, hb, hv with
    | 0, _, hv => simpa using hv.symm
    | 1, _, hv => simpa using hv.symm
    | 2, _, hv => simpa using hv.symm
    | 3, _, hv => simpa using hv.symm
    | 4, _, hv => simpa using hv.symm
  subst hf
  have : ((cs.drop (b * 1)).take 1)[0]? = some (.bool (f b)) := by rw [e1]; rfl
  simpa using this

theorem covers_row {H : Type} (a : Nat) (y : DataW H) (ha : a < 5) (e : ([.agg [.lit (.bool true), .lit (.bool false), .lit (.bool false), .lit (.bool false), .lit (.bool false)], .agg [.lit (.bool true), .lit (.bool true), .lit (.bool false), .lit (.bool false), .lit (.bool false)], .agg [.lit (.bool true), .lit (.bool true), .lit (.bool true), .lit (.bool false), .lit (.bool false)], .agg [.lit (.bool true), .lit (.bool true), .lit (.bool false), .lit (.bool true), .lit (.bool false)], .agg [.lit (.bool true), .lit (.bool true), .lit (.bool true), .lit (.bool true), .lit (.bool true)]] : List (DataW H))[a]? = some y) :
    y = .agg [.lit (.bool (covb a 0)), .lit (.bool (covb a 1)), .lit (.bool (covb a 2)), .lit (.bool (covb a 3)), .lit (.bool (covb a 4))] := by
  match a, ha, e with
  | 0, _, e => simpa [covb] using e.symm
  | 1, _, e => simpa [covb] using e.symm
  | 2, _, e => simpa [covb] using e.symm
  | 3, _, e => simpa [covb] using e.symm
  | 4, _, e => simpa [covb] using e.symm

theorem cov_of_laid {W : World} (h : laidMetH Ybaz.prog Rows.lawS5301CAloneRow.laid W) : Cov W := by
  rw [MakeChecks.laidMetH_plain _ _ _ (by kernel_rfl)] at h
  obtain ⟨ps, ⟨g0, t0, cs0, f0, p0, q0, hg0, ht0, hv0, hd0, ⟨g1, t1, cs1, f1, p1, q1, hg1, ht1, hv1, hd1, _, _⟩, _⟩, _, _⟩ := h
  have hW : 1 < W.heap.size := by
    unfold World.var? at hv0
    rw [gComp] at hv0
    simp only [Option.bind_some] at hv0
    cases hh : W.heap[1]? with
    | none => rw [hh] at hv0; cases hv0
    | some o => exact (Array.getElem?_eq_some_iff.1 hh).1
  obtain rfl := Option.some.inj (gCovers.symm.trans hg1)
  obtain rfl := Option.some.inj (tCovers.symm.trans ht1)
  obtain ⟨xs, m, rfl, hx, hl, hn, hel⟩ := DataW.trod_array Ybaz.underlying121 hd1
  simp only [Prod.mk.injEq] at hx
  have hxs := hx.1
  refine ⟨hW, fun a b ha hb => ?_⟩
  have ha1 := hel a ha
  have hlt : a < xs.length := by omega
  rw [cells120, List.getElem?_eq_getElem hlt] at ha1
  have hrow : (xs[a]).1 = .agg [.lit (.bool (covb a 0)), .lit (.bool (covb a 1)), .lit (.bool (covb a 2)), .lit (.bool (covb a 3)), .lit (.bool (covb a 4))] := by
    have e : (xs.map (·.1))[a]? = some (xs[a]).1 := by rw [List.getElem?_map, List.getElem?_eq_getElem hlt]; rfl
    unfold Rows.laid_example_com_palimpsest_palimpsest_internal_engine_covers at hxs
    simp only [DataW.agg.injEq] at hxs
    rw [← hxs] at e
    exact covers_row a _ ha e
  have hb1 := row5 ha1 (covb a) hrow b hb
  rw [List.getElem?_take, if_pos hb, List.getElem?_drop] at hb1
  rw [World.var?_cell hg1 hv1 (a * 5 + b)]
  simpa using hb1
end Go.Proofs.YbulkdetkGreatDoor
