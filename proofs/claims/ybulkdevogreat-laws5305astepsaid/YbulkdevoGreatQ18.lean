/- Stores of many cells: the table of fingers, the member as it is built. -/
import Derived.Test.YbulkdevoGreatQ15
namespace Go.Proofs.YbulkdevoGreat
open Go.RowKit Go.Sort
set_option linter.unusedVariables false
set_option linter.unusedSimpArgs false

def setL (C : Array Value) (o : Nat) : List Value → Array Value
  | [] => C
  | v :: r => setL (C.setIfInBounds o v) (o + 1) r
theorem setL_size : ∀ (vs : List Value) (C : Array Value) (o : Nat), (setL C o vs).size = C.size
  | [], _, _ => rfl
  | v :: r, C, o => by rw [setL, setL_size r, Array.size_setIfInBounds]
theorem setL_out : ∀ (vs : List Value) (C : Array Value) (o k : Nat), k < o ∨ o + vs.length ≤ k → (setL C o vs)[k]? = C[k]?
  | [], _, _, _, _ => rfl
  | v :: r, C, o, k, h => by
    simp only [List.length_cons] at h
    rw [setL, setL_out r _ _ _ (by omega), Array.getElem?_setIfInBounds, if_neg (by omega)]
theorem setL_in : ∀ (vs : List Value) (C : Array Value) (o j : Nat), j < vs.length → o + vs.length ≤ C.size → (setL C o vs)[o + j]? = vs[j]?
  | [], _, _, _, h, _ => by simp at h
  | v :: r, C, o, 0, h, hs => by
    simp only [List.length_cons] at hs
    rw [setL, setL_out r _ _ _ (by omega), Array.getElem?_setIfInBounds, if_pos (by omega), if_pos (by omega)]
    rfl
  | v :: r, C, o, j + 1, h, hs => by
    simp only [List.length_cons] at hs h
    have := setL_in r (C.setIfInBounds o v) (o + 1) j (by omega) (by rw [Array.size_setIfInBounds]; omega)
    rw [setL, show o + (j + 1) = o + 1 + j by omega, this]
    rfl

theorem IsBlk.setCells {b : Nat} {t : TypeId} : ∀ (vs : List Value) {w : World} {C : Array Value} (o : Nat), IsBlk w b C t → IsBlk (w.setCells b o vs) b (setL C o vs) t
  | [], _, _, _, h => h
  | v :: r, w, C, o, h => by
    rw [World.setCells, setL]
    exact IsBlk.setCells r (o + 1) (h.set o v)
theorem turn_setCells (b : Nat) : ∀ (vs : List Value) (w : World) (o : Nat), Turn (· = b) w (w.setCells b o vs)
  | [], w, _ => Turn.refl _ w
  | v :: r, w, o => by
    rw [World.setCells]
    exact (Turn.set1 w b o v).trans (turn_setCells b r _ _)
theorem IsBlk.there {w : World} {b : Nat} {C : Array Value} {t : TypeId} (h : IsBlk w b C t) (o n : Nat) (hn : o + n ≤ C.size) : w.there b o n := fun j hj => by
  refine ⟨?_, h.frozen _⟩
  rw [h.cell]
  simp; omega
theorem St26_mid {w : World} {b o : Nat} {C : Array Value} {t : TypeId} (h : IsBlk w b C t) (ho : o + 21 ≤ C.size) (p : Option UInt8) :
    (St 26 ⟨b, o, none⟩ (.agg (pv p))).run Ybaz.prog w = .ok () (w.setCells b o (pv p).toList) :=
  run_storeVar_mid (P := Ybaz.prog) w b o 26 (pv p) (h.there o _ (by rw [pv_size]; exact ho)) (by rw [info26, pv_size]) (pv_one p)

/-- The table of fingers C shows xs, the zero Peer behind them. -/
def Fing (C : Array Value) (xs : List UInt8) : Prop := C.size = 3360 ∧ ∀ j, j < 160 → C.extract (j * 21) (j * 21 + 21) = pv xs[j]?

def zcell (k : Nat) : Value := if k = 20 then .string ⟨#[]⟩ else .int .u8 0
theorem zero27 : Ybaz.zeroCells27 = ((List.range 3360).map fun k => zcell (k % 21)).toArray := by kernel_rfl
theorem pvz : pv none = ((List.range 21).map fun k => zcell k).toArray := by rfl
theorem fing_zero : Fing Ybaz.zeroCells27 [] := by
  refine ⟨Ybaz.zeroCells27_size, fun j hj => ?_⟩
  rw [zero27, List.getElem?_nil, pvz]
  apply Array.ext_getElem?
  intro i
  rw [Array.getElem?_extract]
  simp only [List.size_toArray, List.length_map, List.length_range]
  by_cases hi : i < 21
  · rw [if_pos (by omega)]
    have e : (j * 21 + i) % 21 = i := by omega
    have h1 : j * 21 + i < 3360 := by omega
    simp [h1, hi, e]
  · rw [if_neg (by omega)]
    have : ((List.range 21).map zcell).length ≤ i := by simp; omega
    rw [List.getElem?_toArray, List.getElem?_eq_none this]

theorem fing_step {C : Array Value} {f : List UInt8} {i : Nat} {x : UInt8} (h : Fing C (f.take i)) (hi : i < 160) (hx : f[i]? = some x) : Fing (setL C (i * 21) (pv (some x)).toList) (f.take (i + 1)) := by
  obtain ⟨hs, hf⟩ := h
  refine ⟨by rw [setL_size, hs], fun j hj => ?_⟩
  have hl : (pv (some x)).toList.length = 21 := by simp [pv_size]
  by_cases e : j = i
  · subst e
    have hxx : (f.take (j + 1))[j]? = some x := by rw [List.getElem?_take_of_lt (by omega)]; exact hx
    rw [hxx]
    apply Array.ext_getElem?
    intro k
    rw [Array.getElem?_extract, setL_size]
    by_cases hk : k < 21
    · rw [if_pos (by omega), setL_in _ _ _ _ (by omega) (by omega), Array.getElem?_toList]
    · rw [if_neg (by omega)]
      have : (pv (some x)).size ≤ k := by rw [pv_size]; omega
      simp [this]
  · have hxx : (f.take (i + 1))[j]? = (f.take i)[j]? := by
      have hlen := (List.getElem?_eq_some_iff.1 hx).1
      by_cases hji : j < i
      · rw [List.getElem?_take_of_lt (by omega), List.getElem?_take_of_lt hji]
      · rw [List.getElem?_eq_none (by simp; omega), List.getElem?_eq_none (by simp; omega)]
    rw [hxx, ← hf j hj]
    apply Array.ext_getElem?
    intro k
    rw [Array.getElem?_extract, Array.getElem?_extract, setL_size]
    by_cases hk : k < min (j * 21 + 21) C.size - j * 21
    · rw [if_pos hk, if_pos hk, setL_out _ _ _ _ (by omega)]
    · rw [if_neg hk, if_neg hk]

theorem fold_setL : ∀ (vs : List Value) (C : Array Value) (o k : Nat), (vs.zipIdx k).foldl (fun cs p => cs.setIfInBounds (o + p.2) p.1) C = setL C (o + k) vs
  | [], _, _, _ => rfl
  | v :: r, C, o, k => by
    rw [List.zipIdx_cons, List.foldl_cons, fold_setL r, setL]
    rfl

theorem fill_cons (place : Nat → Option (Nat × Nat)) (Z : Array Value) (i : Nat) (v : Value) (rest : List (Nat × Value)) (off size : Nat) (hp : place i = some (off, size)) (hv : v.cells.size = size) (ho : off + size ≤ Z.size) :
    Instr.fill place Z ((i, v) :: rest) = Instr.fill place (setL Z off v.cells.toList) rest := by
  rw [Instr.fill, hp]
  simp only [hv]
  rw [if_neg (by simp; omega)]
  congr 1
  rw [← Array.foldl_toList]
  have := fold_setL v.cells.toList Z off 0
  rw [Nat.add_zero] at this
  rw [← this]
  congr 1
  simp [Array.toList_zipIdx]

theorem built74 : ∃ pl : List (Nat × Nat), (∀ parts : List (Nat × Value), Ybaz.prog.built 74 parts = Instr.fill (pl.toArray[·]?) Ybaz.zeroCells74 parts) ∧ pl.toArray[0]? = some (0, 21) ∧ pl.toArray[12]? = some (44, 42) ∧ pl.toArray[13]? = some (86, 1) ∧ pl.toArray[17]? = some (90, 3360) :=
  ⟨((Ybaz.prog.fieldsOf 74).toList.mapM fun f => (Ybaz.prog.info? f.type).map fun i => (f.offset, i.size)).getD [], fun parts => by kernel_rfl, by kernel_rfl, by kernel_rfl, by kernel_rfl, by kernel_rfl⟩
theorem z74mu : Ybaz.zeroCells74[42]? = some (.int .i32 0) := by kernel_rfl
theorem z74size : 3500 ≥ 0 ∧ 3450 ≤ Ybaz.zeroCells74.size := ⟨by omega, by rw [Ybaz.zeroCells74_size]; decide⟩

/-- The cells of the member as the law builds it. -/
def memC (Z : Array Value) (s succ : UInt8) (C : Array Value) (nv : Value) : Array Value := setL (setL (setL (setL Z 0 (pv (some s)).toList) 44 (nbv none succ).toList) 90 C.toList) 86 [nv]
theorem bd74 (s succ : UInt8) (C : Array Value) (hC : C.size = 3360) (a : Option Addr) (n c : Nat) (w : World) :
    (Bd 74 #[(0, .agg (pv (some s))), (12, .agg (nbv none succ)), (17, .agg C), (13, .slice a n c)]).run Ybaz.prog w = .ok (.agg (memC Ybaz.zeroCells74 s succ C (.slice a n c))) w := by
  refine run_build w 74 _ _ ?_
  show Ybaz.prog.built 74 [(0, .agg (pv (some s))), (12, .agg (nbv none succ)), (17, .agg C), (13, .slice a n c)] = _
  have hz := z74size.2
  obtain ⟨pl, hb, pl0, pl12, pl13, pl17⟩ := built74
  rw [hb, fill_cons (pl.toArray[·]?) _ _ (.agg (pv (some s))) _ 0 21 pl0 (by simp only [Value.cells]; exact pv_size _) (by omega), fill_cons (pl.toArray[·]?) _ _ (.agg (nbv none succ)) _ 44 42 pl12 (by simp only [Value.cells]; exact nbv_size _ _) (by rw [setL_size]; omega), fill_cons (pl.toArray[·]?) _ _ (.agg C) _ 90 3360 pl17 (by simp only [Value.cells]; exact hC) (by rw [setL_size, setL_size]; omega), fill_cons (pl.toArray[·]?) _ _ (.slice a n c) _ 86 1 pl13 (by simp [Value.cells]) (by rw [setL_size, setL_size, setL_size]; omega)]
  simp only [Value.cells, Instr.fill]
  rfl
theorem bd32 (succ : UInt8) (w : World) : (Bd 32 #[(1, .agg (pv (some succ)))]).run Ybaz.prog w = .ok (.agg (nbv none succ)) w := run_build w 32 _ _ (by kernel_rfl)

theorem range_blk {w : World} {b o : Nat} {C : Array Value} {t : TypeId} (h : IsBlk w b C t) (vs : List Value) (hv : ∀ j v, vs[j]? = some v → C[o + j]? = some v) : w.rangeAt b o vs := fun j v hj => (h.cell _).trans (hv j v hj)

theorem mem_built {w : World} {M : Nat} {s succ : UInt8} {C : Array Value} {nv : Value} (h : IsBlk w M (memC Ybaz.zeroCells74 s succ C nv) 74) (hC : C.size = 3360) : Mem w M s none succ nv C ∧ w.cell? ⟨M, 42, none⟩ = some (.int .i32 0) ∧ w.frozen? ⟨M, 42, none⟩ = false := by
  have hz := z74size.2
  have l1 : (pv (some s)).toList.length = 21 := by simp [pv_size]
  have l2 : (nbv none succ).toList.length = 42 := by simp [nbv_size]
  have l3 : C.toList.length = 3360 := by simp [hC]
  have nbr : w.rangeAt M 44 (nbv none succ).toList := range_blk h _ fun j v hv => by
    have hj := (List.getElem?_eq_some_iff.1 hv).1
    rw [memC, setL_out _ _ _ _ (by simp; omega), setL_out _ _ _ _ (by omega), setL_in _ _ _ _ hj (by rw [setL_size]; omega)]
    exact hv
  refine ⟨⟨h.lt, ?_, nb_pred nbr, nb_succ nbr, ?_, ?_⟩, ?_, h.frozen _⟩
  · refine range_blk h _ fun j v hv => ?_
    have hj := (List.getElem?_eq_some_iff.1 hv).1
    rw [memC, setL_out _ _ _ _ (by simp; omega), setL_out _ _ _ _ (by omega), setL_out _ _ _ _ (by omega), setL_in _ _ _ _ hj (by omega)]
    exact hv
  · rw [h.cell, memC]
    have := setL_in [nv] (setL (setL (setL Ybaz.zeroCells74 0 (pv (some s)).toList) 44 (nbv none succ).toList) 90 C.toList) 86 0 (by simp) (by simp only [setL_size, List.length_singleton]; omega)
    exact this
  · refine range_blk h _ fun j v hv => ?_
    have hj := (List.getElem?_eq_some_iff.1 hv).1
    rw [memC, setL_out _ _ _ _ (by simp only [List.length_singleton]; omega), setL_in _ _ _ _ hj (by rw [setL_size, setL_size]; omega)]
    exact hv
  · rw [h.cell, memC, setL_out _ _ _ _ (by simp), setL_out _ _ _ _ (by omega), setL_out _ _ _ _ (by omega), setL_out _ _ _ _ (by omega)]
    exact z74mu

/-- The predecessor stored. -/
theorem mem_pred {w : World} {M : Nat} {s succ : UInt8} {p : Option UInt8} {C : Array Value} {nv : Value} (h : Mem w M s p succ nv C) (hm : w.cell? ⟨M, 42, none⟩ = some (.int .i32 0)) (hf : w.frozen? ⟨M, 42, none⟩ = false) (ht : w.there M 44 21) (pr : UInt8) :
    Mem (w.setCells M 44 (pv (some pr)).toList) M s (some pr) succ nv C ∧ (w.setCells M 44 (pv (some pr)).toList).cell? ⟨M, 42, none⟩ = some (.int .i32 0) ∧ (w.setCells M 44 (pv (some pr)).toList).frozen? ⟨M, 42, none⟩ = false := by
  have l1 : (pv (some s)).toList.length = 21 := by simp [pv_size]
  have l2 : (pv (some pr)).toList.length = 21 := by simp [pv_size]
  have l3 : (pv (some succ)).toList.length = 21 := by simp [pv_size]
  refine ⟨⟨Nat.lt_of_lt_of_le h.lt (turn_setCells M _ w 44).size, World.rangeAt_setCells_apart h.self M 44 _ (.inr (.inl (by omega))), World.rangeAt_setCells_same w M 44 _ (by rw [l2]; exact ht), World.rangeAt_setCells_apart h.succ M 44 _ (.inr (.inr (by omega))), ?_, World.rangeAt_setCells_apart h.fing M 44 _ (.inr (.inr (by omega)))⟩, ?_, ?_⟩
  · rw [World.cell?_setCells_out M _ 44 w ⟨M, 86, none⟩ (fun _ _ => .inr (by show 44 + _ ≤ 86; omega))]
    exact h.next
  · rw [World.cell?_setCells_out M _ 44 w ⟨M, 42, none⟩ (fun _ _ => .inl (by show 42 < 44; omega))]
    exact hm
  · rw [World.frozen?_setCells]; exact hf
end Go.Proofs.YbulkdevoGreat
