/- Ids and peers as values: what loads and stores of them do, whole. -/
import Derived.Test.YbulkdevoGreatQ1
import Derived.Test.YbulkdevoGreatRows
import Derived.WalkKit
import Derived.BigQuiet
import Derived.Deep.QuietTactic
import Derived.Deep.WholeRow
import Derived.Shelf.SlSortCmp.QuietGrown
namespace Go.Proofs.YbulkdevoGreat
open Go.RowKit Go.Sort
set_option linter.unusedVariables false
set_option linter.unusedSimpArgs false

/-- The cells of the id whose first byte is b, all others 0. -/
def idv (b : UInt8) : Array Value := #[.int .u8 b.toNat, .int .u8 0, .int .u8 0, .int .u8 0, .int .u8 0, .int .u8 0, .int .u8 0, .int .u8 0, .int .u8 0, .int .u8 0, .int .u8 0, .int .u8 0, .int .u8 0, .int .u8 0, .int .u8 0, .int .u8 0, .int .u8 0, .int .u8 0, .int .u8 0, .int .u8 0]
/-- The zero id. -/
def idz : Array Value := #[.int .u8 0, .int .u8 0, .int .u8 0, .int .u8 0, .int .u8 0, .int .u8 0, .int .u8 0, .int .u8 0, .int .u8 0, .int .u8 0, .int .u8 0, .int .u8 0, .int .u8 0, .int .u8 0, .int .u8 0, .int .u8 0, .int .u8 0, .int .u8 0, .int .u8 0, .int .u8 0]
theorem idz_eq : idz = idv 0 := rfl
theorem idv_size (b : UInt8) : (idv b).size = 20 := rfl

/-- The address of the peer b. -/
def adr (b : UInt8) : ByteArray := ⟨#[112, b]⟩
/-- The cells of a peer; 'none': the zero Peer. -/
def pv : Option UInt8 → Array Value
  | none => (idv 0).push (.string ByteArray.empty)
  | some b => (idv b).push (.string (adr b))
theorem pv_size (p : Option UInt8) : (pv p).size = 21 := by cases p <;> rfl

/-- A load and a store of many cells, under names that the walk does not open. -/
def Ld (t : TypeId) (p : Addr) : Sem Value := loadVar t p
def St (t : TypeId) (p : Addr) (v : Value) : Sem Unit := storeVar t p v
theorem fold_ld24 (p : Addr) : loadVar 24 p = Ld 24 p := rfl
theorem fold_ld26 (p : Addr) : loadVar 26 p = Ld 26 p := rfl
theorem fold_ld27 (p : Addr) : loadVar 27 p = Ld 27 p := rfl
theorem fold_ld32 (p : Addr) : loadVar 32 p = Ld 32 p := rfl
theorem fold_st24 (p : Addr) (v : Value) : storeVar 24 p v = St 24 p v := rfl
theorem fold_st26 (p : Addr) (v : Value) : storeVar 26 p v = St 26 p v := rfl
theorem fold_st32 (p : Addr) (v : Value) : storeVar 32 p v = St 32 p v := rfl

theorem info24 : (Ybaz.prog.info? 24).map (·.size) = some 20 := by kernel_rfl
theorem info26 : (Ybaz.prog.info? 26).map (·.size) = some 21 := by kernel_rfl
theorem info27 : (Ybaz.prog.info? 27).map (·.size) = some 3360 := by kernel_rfl
theorem info32 : (Ybaz.prog.info? 32).map (·.size) = some 42 := by kernel_rfl

theorem run_Ld24 {w : World} {b o : Nat} {cs : Array Value} (hc : w.rangeAt b o cs.toList) (hs : cs.size = 20) : (Ld 24 ⟨b, o, none⟩).run Ybaz.prog w = .ok (.agg cs) w := by
  have := run_loadVar_mid (P := Ybaz.prog) w b o 24 cs.toList _ hc Ybaz.underlying24 rfl (by rw [info24]; simp [hs])
  simpa [Ld] using this
theorem run_Ld26 {w : World} {b o : Nat} {cs : Array Value} (hc : w.rangeAt b o cs.toList) (hs : cs.size = 21) : (Ld 26 ⟨b, o, none⟩).run Ybaz.prog w = .ok (.agg cs) w := by
  have := run_loadVar_mid (P := Ybaz.prog) w b o 26 cs.toList _ hc Ybaz.underlying26 rfl (by rw [info26]; simp [hs])
  simpa [Ld] using this
theorem run_Ld27 {w : World} {b o : Nat} {cs : Array Value} (hc : w.rangeAt b o cs.toList) (hs : cs.size = 3360) : (Ld 27 ⟨b, o, none⟩).run Ybaz.prog w = .ok (.agg cs) w := by
  have := run_loadVar_mid (P := Ybaz.prog) w b o 27 cs.toList _ hc Ybaz.underlying27 rfl (by rw [info27]; simp [hs])
  simpa [Ld] using this
theorem run_Ld32 {w : World} {b o : Nat} {cs : Array Value} (hc : w.rangeAt b o cs.toList) (hs : cs.size = 42) : (Ld 32 ⟨b, o, none⟩).run Ybaz.prog w = .ok (.agg cs) w := by
  have := run_loadVar_mid (P := Ybaz.prog) w b o 32 cs.toList _ hc Ybaz.underlying32 rfl (by rw [info32]; simp [hs])
  simpa [Ld] using this

/-- A block that is known whole: all its cells from the head on. -/
theorem IsBlk.range {w : World} {b : Nat} {cs : Array Value} {t : TypeId} (h : IsBlk w b cs t) : w.rangeAt b 0 cs.toList := fun j v hv => by
  rw [Nat.zero_add, h.cell]
  simpa using hv

theorem St_new {ty : TypeId} (w : World) (c c' : Array Value) (hi : (Ybaz.prog.info? ty).map (·.size) = some c'.size) (ho : c.size = c'.size) (h1 : c'.all (·.oneCell') = true) :
    (St ty ⟨w.heap.size, 0, none⟩ (.agg c')).run Ybaz.prog (w.alloc (.cells c ty)) = .ok () (w.alloc (.cells c' ty)) :=
  run_storeVar_new w ty c c' hi ho h1

theorem idv_one (b : UInt8) : (idv b).all (·.oneCell') = true := by simp [idv, Value.oneCell']
theorem pv_one (p : Option UInt8) : (pv p).all (·.oneCell') = true := by cases p <;> simp [pv, idv, Value.oneCell']

theorem Grn.setRow {a w : World} (h : Grn a w) {g : Nat} (hp : a.heap.size ≤ g) (cs : Array Value) : Grn a (w.setRow g cs) := by
  obtain ⟨q, os, rfl⟩ := h
  refine ⟨q, os.modify (g - a.heap.size) (fun | .cells _ t f => .cells cs t f | o => o), ?_⟩
  simp only [World.setRow, Go.Sort.grow]
  rw [modify_append_right _ _ _ _ (by exact hp)]
  rfl

section
attribute [local go_sem ↓] fold_ld24 fold_st24
set_option maxRecDepth 100000 in
theorem id_any (b : UInt8) (w : World) : Calls Ybaz.prog 9 #[.int .u8 b.toNat] w fun e w' => e = .returned (.agg (idv b)) ∧ Grn w w' := by
  have h1 : (Ld 24 ⟨w.heap.size + 1, 0, none⟩).run Ybaz.prog ((w.alloc (.cells (idz) 24)).alloc (.cells (idv b) 24)) = .ok (.agg (idv b)) ((w.alloc (.cells (idz) 24)).alloc (.cells (idv b) 24)) := by
    have := IsBlk.new (w.alloc (.cells (idz) 24)) (idv b) 24
    rw [show (w.alloc (.cells (idz) 24)).heap.size = w.heap.size + 1 by simp] at this
    exact run_Ld24 this.range rfl
  have h2 : (St 24 ⟨w.heap.size, 0, none⟩ (.agg (idv b))).run Ybaz.prog ((w.alloc (.cells (idz) 24)).alloc (.cells (idv b) 24)) = .ok () (((w.alloc (.cells (idz) 24)).alloc (.cells (idv b) 24)).setRow w.heap.size (idv b)) := by
    have h0 : IsBlk ((w.alloc (.cells (idz) 24)).alloc (.cells (idv b) 24)) w.heap.size (idz) 24 := heap_alloc2_old w _ _
    exact run_storeVar_row (P := Ybaz.prog) _ w.heap.size 24 24 (idz) (idv b) h0 info24 rfl (idv_one b)
  simp only [idv, idz] at h1 h2
  go_enter Ybaz.func9, Ybaz.ntmps9
  go_wp2_with fail
  refine bodyPost_ret (v := .agg (idv b)) (results_cell_row rfl _ _ w.heap.size 24 (idv b) (0, 0) _ rfl (setRow_heap _ _ idz (idv b) 24 (0, 0) (heap_alloc2_old w _ _)) Ybaz.underlying24 rfl info24) rfl ⟨rfl, ?_⟩
  exact Grn.setRow (((Grn.refl w).alloc _).alloc _) (Nat.le_refl _) _
end
end Go.Proofs.YbulkdevoGreat
