/- Ids and peers told apart; Inside; the peer of a byte. -/
import Derived.Test.YbulkdevoGreatQ3
import Derived.Stop.BytesEq
import Derived.Deep.RegionWith
import Derived.BigRegion
import Derived.Laws.BytesArg
import Derived.Laws.Tables
namespace Go.Proofs.YbulkdevoGreat
open Go.RowKit Go.Sort
set_option linter.unusedVariables false
set_option linter.unusedSimpArgs false

theorem idv_bytes (x : UInt8) : idv x = ((x :: List.replicate 19 0).map Extern.Stop.cell).toArray := rfl
theorem eqIn_id (d : Nat) (x y : UInt8) (w : World) : (Op.equalIn (d + 2) 24 (.agg (idv x)) (.agg (idv y))).run Ybaz.prog w = .ok (x == y) w := by
  rw [idv_bytes, idv_bytes, run_equalIn_bytes w d 24 5 20 Ybaz.underlying24 Ybaz.underlying5 Ybaz.sizeOf5 _ _ rfl rfl]
  congr 1
  simp
theorem eql_id (x y : UInt8) (w : World) : (binOp .eql 24 (.agg (idv x)) (.agg (idv y))).run Ybaz.prog w = .ok (.bool (x == y)) w := by
  rw [run_eql_struct, eqIn_id 9998]; rfl
theorem neq_id (x y : UInt8) (w : World) : (binOp .neq 24 (.agg (idv x)) (.agg (idv y))).run Ybaz.prog w = .ok (.bool (!(x == y))) w := by
  rw [run_neq_struct, eqIn_id 9998]; rfl

/-- The zero Peer, written out. -/
def pz : Array Value := #[.int .u8 0, .int .u8 0, .int .u8 0, .int .u8 0, .int .u8 0, .int .u8 0, .int .u8 0, .int .u8 0, .int .u8 0, .int .u8 0, .int .u8 0, .int .u8 0, .int .u8 0, .int .u8 0, .int .u8 0, .int .u8 0, .int .u8 0, .int .u8 0, .int .u8 0, .int .u8 0, .string ⟨#[]⟩]
theorem pz_eq : pz = pv none := rfl
def adrO : Option UInt8 → ByteArray
  | none => ByteArray.empty
  | some b => adr b
theorem part_id (p : Option UInt8) (w : World) : (part 24 (pv p) 0).run Ybaz.prog w = .ok (.agg (idv (p.getD 0))) w := by
  cases p with
  | none => simp [part, Ybaz.isAgg24, Ybaz.sizeOf24, pv, idv]
  | some b => simp [part, Ybaz.isAgg24, Ybaz.sizeOf24, pv, idv]
theorem part_adr (p : Option UInt8) (w : World) : (part 9 (pv p) 20).run Ybaz.prog w = .ok (.string (adrO p)) w := by
  cases p with
  | none => simp [part, Ybaz.isAgg9, pv, idv, adrO]
  | some b => simp [part, Ybaz.isAgg9, pv, idv, adrO]
theorem adrO_eq (p q : Option UInt8) : (p.getD 0 == q.getD 0 && (adrO p).toList == (adrO q).toList) = decide (p = q) := by
  cases p with
  | none =>
    cases q with
    | none => simp
    | some b =>
      simp [adrO, adr, ByteArray.toList_eq, ByteArray.empty, ByteArray.emptyWithCapacity]
      intro _ h
      have h : ([] : List UInt8) = [112, b] := h
      cases h
  | some a =>
    cases q with
    | none =>
      simp [adrO, adr, ByteArray.toList_eq, ByteArray.empty, ByteArray.emptyWithCapacity]
      intro _ h
      have h : [112, a] = ([] : List UInt8) := h
      cases h
    | some b =>
      by_cases h : a = b
      · subst h; simp
      · simp [h]

theorem eqIn_peer (p q : Option UInt8) (w : World) : (Op.equalIn 10000 26 (.agg (pv p)) (.agg (pv q))).run Ybaz.prog w = .ok (decide (p = q)) w := by
  have hS : Ybaz.prog.underlying 26 = some (.struct (Ybaz.prog.fieldsOf 26)) := by kernel_rfl
  rw [show (10000 : Nat) = 9999 + 1 from rfl, run_equalIn_agg w 9999 26 _ _ hS Ybaz.stoodInHeld26, ← adrO_eq]
  simp only [Program.fieldsOf, Ybaz.underlying26]
  simp only [Op.eqFields, Sem.run_bind, part_id, part_adr, Result.andThen_ok, eqIn_id 9997, ne_eq, Sem.run_ite]
  simp only [String.reduceEq, not_false_eq_true, if_true]
  rw [run_equalIn_string w 9998 9 _ _ Ybaz.underlying9]
  simp only [Result.andThen_ok, Sem.run_pure]
  cases p.getD 0 == q.getD 0 <;> cases (adrO p).toList == (adrO q).toList <;> simp

theorem eql_peer (p q : Option UInt8) (w : World) : (binOp .eql 26 (.agg (pv p)) (.agg (pv q))).run Ybaz.prog w = .ok (.bool (decide (p = q))) w := by
  rw [run_eql_struct, eqIn_peer]; rfl
theorem neq_peer (p q : Option UInt8) (w : World) : (binOp .neq 26 (.agg (pv p)) (.agg (pv q))).run Ybaz.prog w = .ok (.bool (!decide (p = q))) w := by
  rw [run_neq_struct, eqIn_peer]; rfl

theorem Grn.undrew {w : World} {o : Obj} {V : World} (h : Grn (w.drew.alloc o) V) : Grn (w.alloc o) V := Grn.trans (b := (w.alloc o).drew) (Grn.refl _).drew h

theorem cv_adr (b : UInt8) {W V : World} (h : Grn (W.alloc (.cells #[.int .u8 112, .int .u8 b.toNat] 5)) V) : (convert 22 9 (.slice (some ⟨W.heap.size, 0, none⟩) 2 2)).run Ybaz.prog V = .ok (.string (adr b)) V := by
  have hb := (IsBlk.new W #[.int .u8 112, .int .u8 b.toNat] 5).grn h
  have := run_convert_bytes_arg (P := Ybaz.prog) V 22 5 Ybaz.underlying22 Ybaz.underlying5 W.heap.size 0 2 2 [112, (b.toNat : Int)] rfl (fun i hi => by
    rw [Nat.zero_add, hb.cell]
    rcases (show i = 0 ∨ i = 1 by omega) with rfl | rfl <;> rfl) 9 Ybaz.underlying9
  rw [this]
  simp [strOfNums, adr]

def Bd (t : TypeId) (parts : Array (Nat × Value)) : Sem Value := Instr.build t parts
theorem fold_bd24 (ps : Array (Nat × Value)) : Instr.build 24 ps = Bd 24 ps := rfl
theorem fold_bd26 (ps : Array (Nat × Value)) : Instr.build 26 ps = Bd 26 ps := rfl
theorem fold_bd32 (ps : Array (Nat × Value)) : Instr.build 32 ps = Bd 32 ps := rfl
theorem fold_bd74 (ps : Array (Nat × Value)) : Instr.build 74 ps = Bd 74 ps := rfl

theorem built26 (b : UInt8) : Ybaz.prog.built 26 [(0, .agg (idv b)), (1, .string (adr b))] = some (pv (some b)) := by
  kernel_rfl

section
attribute [local go_sem ↓] fold_ld24 fold_st24 fold_ld26 fold_st26 fold_bd24 fold_bd26
set_option maxRecDepth 100000 in
theorem inside_any (x a b : UInt8) (w : World) : Calls Ybaz.prog 26 #[.agg (idv x), .agg (idv a), .agg (idv b)] w fun e w' => e = .returned (.bool (ins x a b)) ∧ Grn w w' := by
  obtain ⟨hG, h1, h2, h3⟩ := boxes3 w (idv x) (idv a) (idv b) 24
  generalize hw1 : ((w.alloc (.cells (idv x) 24)).alloc (.cells (idv a) 24)).alloc (.cells (idv b) 24) = w1 at hG h1 h2 h3
  have r1 : ∀ W, Grn w1 W → (Ld 24 ⟨w.heap.size, 0, none⟩).run Ybaz.prog W = .ok (.agg (idv x)) W := fun W h => run_Ld24 (h1.grn h).range rfl
  have r2 : ∀ W, Grn w1 W → (Ld 24 ⟨w.heap.size + 1, 0, none⟩).run Ybaz.prog W = .ok (.agg (idv a)) W := fun W h => run_Ld24 (h2.grn h).range rfl
  have r3 : ∀ W, Grn w1 W → (Ld 24 ⟨w.heap.size + 2, 0, none⟩).run Ybaz.prog W = .ok (.agg (idv b)) W := fun W h => run_Ld24 (h3.grn h).range rfl
  have g1 : Grn w1 w1 := Grn.refl w1
  have k1 := between_any x a b
  have n1 := neq_id x b
  have hins : ins x a b = (!(x == b) && btw x a b) := rfl
  rw [hins]
  clear h1 h2 h3 hins
  generalize btw x a b = c1 at k1 ⊢
  generalize (x == b) = c2 at n1 ⊢
  cases c2
  · go_enter Ybaz.func26, Ybaz.ntmps26
    go_wp2_with fail
    refine (k1 _).mono ?_
    rintro e w2 ⟨rfl, j2⟩
    go_wp2_with fail
    go_ret
    exact ⟨by simp, hG.trans j2⟩
  · go_enter Ybaz.func26, Ybaz.ntmps26
    go_wp2_with fail
    go_ret
    exact ⟨by simp, hG⟩

set_option maxRecDepth 100000 in
theorem peer_any (b : UInt8) (w : World) : Calls Ybaz.prog 4 #[.int .u8 b.toNat] w fun e w' => e = .returned (.agg (pv (some b))) ∧ Grn w w' := by
  have k1 := id_any b
  have h0 : IsBlk (w.alloc (.cells pz 26)) w.heap.size pz 26 := IsBlk.new w pz 26
  have hG : Grn w (w.alloc (.cells pz 26)) := (Grn.refl w).alloc _
  generalize hw0 : w.alloc (.cells pz 26) = w0 at h0 hG
  have hst : ∀ W, Grn w0 W → (St 26 ⟨w.heap.size, 0, none⟩ (.agg (pv (some b)))).run Ybaz.prog W = .ok () (W.setRow w.heap.size (pv (some b))) := fun W h => run_storeVar_row (P := Ybaz.prog) W w.heap.size 26 26 pz (pv (some b)) (h0.grn h) info26 rfl (pv_one _)
  have g0 : Grn w0 w0 := Grn.refl w0
  have g0d : Grn w0 w0.drew := g0.drew
  have ga : ∀ W o, Grn w0 W → Grn w0 (W.alloc o) := fun W o h => h.alloc o
  have gd : ∀ W, Grn w0 W → Grn w0 W.drew := fun W h => h.drew
  have hcv : ∀ W V : World, Grn (W.alloc (.cells #[.int .u8 112, .int .u8 b.toNat] 5)) V → (convert 22 9 (.slice (some ⟨W.heap.size, 0, none⟩) 2 2)).run Ybaz.prog V = .ok (.string (adr b)) V := fun W V h => cv_adr b h
  have hgr : ∀ W, Grn W W := Grn.refl
  have hgd : ∀ W : World, Grn W W.drew := fun W => (Grn.refl W).drew
  have hbd : ∀ W, (Bd 26 #[(0, .agg (idv b)), (1, .string (adr b))]).run Ybaz.prog W = .ok (.agg (pv (some b))) W := fun W => run_build W 26 _ _ (built26 b)
  simp only [pz] at hw0
  go_enter Ybaz.func4, Ybaz.ntmps4
  go_wp2_with fail
  clear hw0
  go_region_with (first | (go_at_call 9; refine (k1 _).mono ?_; rintro e w' ⟨rfl, j⟩; have j' : Grn w0 w' := Grn.trans (by first | exact g0d | exact ga _ _ g0d | exact gd _ (ga _ _ g0)) j; (try have j4 := Grn.trans (hgd _) j); (try have j3 := Grn.undrew j)))
  all_goals
    go_wp2_with fail
    refine bodyPost_ret (v := .agg (pv (some b))) (results_cell_row rfl _ _ w.heap.size 26 (pv (some b)) (0, 0) _ rfl (setRow_heap _ _ pz (pv (some b)) 26 (0, 0) (h0.grn (by first | exact j' | exact ga _ _ j'))) Ybaz.underlying26 rfl info26) rfl ⟨rfl, ?_⟩
    exact Grn.setRow (hG.trans (by first | exact j' | exact ga _ _ j')) (Nat.le_refl _) _
end
end Go.Proofs.YbulkdevoGreat
