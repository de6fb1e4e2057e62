/- A member in memory: the parts of it that a step reads; its arc. -/
import Derived.Test.YbulkdevoGreatQ4
namespace Go.Proofs.YbulkdevoGreat
open Go.RowKit Go.Sort
set_option linter.unusedVariables false
set_option linter.unusedSimpArgs false

/-- What lies in the member's block M, as far as a step reads it: itself, its neighbours, its list ('nv': the slice), the table of fingers ('C': its cells). -/
structure Mem (w : World) (M : Nat) (s : UInt8) (pred : Option UInt8) (succ : UInt8) (nv : Value) (C : Array Value) : Prop where
  lt : M < w.heap.size
  self : w.rangeAt M 0 (pv (some s)).toList
  pred : w.rangeAt M 44 (pv pred).toList
  succ : w.rangeAt M 65 (pv (some succ)).toList
  next : w.cell? ⟨M, 86, none⟩ = some nv
  fing : w.rangeAt M 90 C.toList

theorem Mem.same {w w' : World} {M : Nat} {s : UInt8} {pred : Option UInt8} {succ : UInt8} {nv : Value} {C : Array Value} (h : Mem w M s pred succ nv C) (e : w'.heap[M]? = w.heap[M]?) (hs : w.heap.size ≤ w'.heap.size) : Mem w' M s pred succ nv C :=
  ⟨Nat.lt_of_lt_of_le h.lt hs, rangeAt_same h.self e, rangeAt_same h.pred e, rangeAt_same h.succ e, (World.cell?_of_block (a := ⟨M, 86, none⟩) e).trans h.next, rangeAt_same h.fing e⟩
theorem Mem.turn {w w' : World} {M : Nat} {s : UInt8} {pred : Option UInt8} {succ : UInt8} {nv : Value} {C : Array Value} (h : Mem w M s pred succ nv C) {T : Nat → Prop} (k : Turn T w w') (hM : ¬ T M) : Mem w' M s pred succ nv C := h.same (k.block M h.lt hM) k.size
theorem Mem.grn {w w' : World} {M : Nat} {s : UInt8} {pred : Option UInt8} {succ : UInt8} {nv : Value} {C : Array Value} (h : Mem w M s pred succ nv C) (k : Grn w w') : Mem w' M s pred succ nv C := h.turn k.grew id

/-- Sub-ranges. -/
theorem range_sub {w : World} {b o : Nat} {cs : List Value} (h : w.rangeAt b o cs) (i : Nat) (cs' : List Value) (hs : ∀ j v, cs'[j]? = some v → cs[i + j]? = some v) : w.rangeAt b (o + i) cs' := fun j v hv => by
  have := h (i + j) v (hs j v hv)
  rwa [← Nat.add_assoc] at this
theorem range_id {w : World} {b o : Nat} {p : Option UInt8} (h : w.rangeAt b o (pv p).toList) : w.rangeAt b o (idv (p.getD 0)).toList := range_sub (i := 0) h _ fun j v hv => by
  rw [Nat.zero_add]
  have hj : j < 20 := by
    have := (List.getElem?_eq_some_iff.1 hv).1
    simpa [idv] using this
  cases p with
  | none => simp only [pv, Array.toList_push]; rw [List.getElem?_append_left (by simpa [idv] using hj)]; exact hv
  | some b => simp only [pv, Array.toList_push]; rw [List.getElem?_append_left (by simpa [idv] using hj)]; exact hv
theorem range_adr {w : World} {b o : Nat} {p : Option UInt8} (h : w.rangeAt b o (pv p).toList) : w.cell? ⟨b, o + 20, none⟩ = some (.string (adrO p)) := h 20 _ (by cases p <;> rfl)

theorem adr_eq (x y : UInt8) : ((adr x).toList == (adr y).toList) = (x == y) := by
  by_cases h : x = y
  · subst h; simp
  · have h' : (x == y) = false := by simpa using h
    rw [h']
    simp [adr, ByteArray.toList_eq, h]

section
attribute [local go_sem ↓] fold_ld24 fold_st24 fold_ld26 fold_st26 fold_bd24 fold_bd26 fold_ld32 fold_st32
set_option maxRecDepth 100000 in
theorem isSelf_any {w : World} {M : Nat} {s : UInt8} {pred : Option UInt8} {succ : UInt8} {nv : Value} {C : Array Value} (h : Mem w M s pred succ nv C) (x : UInt8) :
    Calls Ybaz.prog 40 #[.pointer (some ⟨M, 0, none⟩), .agg (pv (some x))] w fun e w' => e = .returned (.bool (x == s)) ∧ Grn w w' := by
  have hG : Grn w (w.alloc (.cells (pv (some x)) 26)) := (Grn.refl w).alloc _
  have h0 : IsBlk (w.alloc (.cells (pv (some x)) 26)) w.heap.size (pv (some x)) 26 := IsBlk.new w _ _
  generalize hw0 : w.alloc (.cells (pv (some x)) 26) = w0 at h0 hG
  have c1 : ∀ n, (w0.drewN n).cell? ⟨w.heap.size, 20, none⟩ = some (.string (adr x)) := fun n => by
    have := range_adr (w := w0.drewN n) (b := w.heap.size) (o := 0) (p := some x) h0.range
    simpa [adrO] using this
  have c2 : ∀ n, (w0.drewN n).cell? ⟨M, 20, none⟩ = some (.string (adr s)) := fun n => by
    have := range_adr (w := w0.drewN n) ((h.grn (hG.drewN n)).self)
    simpa [adrO] using this
  have he := adr_eq x s
  clear h0 h
  generalize hx : adr x = ax at c1 he
  generalize hs : adr s = ay at c2 he
  clear hx hs
  go_enter Ybaz.func40, Ybaz.ntmps40
  go_wp2_with fail
  clear hw0
  go_quiet (fail)
  go_wp2_with fail
  go_ret
  exact ⟨rfl, hG.drewN _⟩

/-- A Neighbours value. -/
def nbv (pred : Option UInt8) (succ : UInt8) : Array Value := pv pred ++ pv (some succ)
theorem nbv_size (pred : Option UInt8) (succ : UInt8) : (nbv pred succ).size = 42 := by simp [nbv, pv_size]
theorem nbv_one (pred : Option UInt8) (succ : UInt8) : (nbv pred succ).all (·.oneCell') = true := by
  rw [nbv, Array.all_append, pv_one, pv_one]; rfl
def nbz : Array Value := #[.int .u8 0, .int .u8 0, .int .u8 0, .int .u8 0, .int .u8 0, .int .u8 0, .int .u8 0, .int .u8 0, .int .u8 0, .int .u8 0, .int .u8 0, .int .u8 0, .int .u8 0, .int .u8 0, .int .u8 0, .int .u8 0, .int .u8 0, .int .u8 0, .int .u8 0, .int .u8 0, .string ⟨#[]⟩, .int .u8 0, .int .u8 0, .int .u8 0, .int .u8 0, .int .u8 0, .int .u8 0, .int .u8 0, .int .u8 0, .int .u8 0, .int .u8 0, .int .u8 0, .int .u8 0, .int .u8 0, .int .u8 0, .int .u8 0, .int .u8 0, .int .u8 0, .int .u8 0, .int .u8 0, .int .u8 0, .string ⟨#[]⟩]
theorem range_nb {w : World} {b o : Nat} {pred : Option UInt8} {succ : UInt8} (h : w.rangeAt b o (pv pred).toList) (h' : w.rangeAt b (o + 21) (pv (some succ)).toList) : w.rangeAt b o (nbv pred succ).toList := fun j v hv => by
  rw [nbv, Array.toList_append] at hv
  by_cases hj : j < 21
  · rw [List.getElem?_append_left (by simpa [pv_size] using hj)] at hv
    exact h j v hv
  · rw [List.getElem?_append_right (by simp [pv_size]; omega)] at hv
    have := h' _ v hv
    rw [show o + 21 + (j - (pv pred).toList.length) = o + j by simp [pv_size]; omega] at this
    exact this
theorem nb_pred {w : World} {b o : Nat} {pred : Option UInt8} {succ : UInt8} (h : w.rangeAt b o (nbv pred succ).toList) : w.rangeAt b o (pv pred).toList := range_sub (i := 0) h _ fun j v hv => by
  have hj := (List.getElem?_eq_some_iff.1 hv).1
  rw [Nat.zero_add, nbv, Array.toList_append, List.getElem?_append_left hj]; exact hv
theorem nb_succ {w : World} {b o : Nat} {pred : Option UInt8} {succ : UInt8} (h : w.rangeAt b o (nbv pred succ).toList) : w.rangeAt b (o + 21) (pv (some succ)).toList := range_sub (i := 21) h _ fun j v hv => by
  rw [nbv, Array.toList_append, List.getElem?_append_right (by simp [pv_size])]
  simpa [pv_size] using hv

theorem bd26z (w : World) : (Bd 26 #[]).run Ybaz.prog w = .ok (.agg (pv none)) w := run_build w 26 _ _ (by kernel_rfl)
theorem bd24z (w : World) : (Bd 24 #[]).run Ybaz.prog w = .ok (.agg (idv 0)) w := run_build w 24 _ _ (by kernel_rfl)

/-- What 'arcLocked' answers. -/
def arcOf (s : UInt8) (pred : Option UInt8) (succ : UInt8) : UInt8 × Bool :=
  match pred with
  | some p => (p, true)
  | none => if succ = s then (s, true) else (0, false)

set_option maxRecDepth 100000 in
theorem arc_any {w : World} {M : Nat} {s : UInt8} {pred : Option UInt8} {succ : UInt8} {nv : Value} {C : Array Value} (h : Mem w M s pred succ nv C) :
    Calls Ybaz.prog 23 #[.pointer (some ⟨M, 0, none⟩)] w fun e w' => e = .returned (.tuple #[.agg (idv (arcOf s pred succ).1), .bool (arcOf s pred succ).2]) ∧ Grn w w' := by
  have h1 : IsBlk ((w.alloc (.cells idz 24)).alloc (.cells nbz 32)) w.heap.size idz 24 := (IsBlk.new w _ _).grn ((Grn.refl _).alloc _)
  have h2 : IsBlk ((w.alloc (.cells idz 24)).alloc (.cells nbz 32)) (w.heap.size + 1) nbz 32 := by
    have := IsBlk.new (w.alloc (.cells idz 24)) nbz 32
    rwa [show (w.alloc (.cells idz 24)).heap.size = w.heap.size + 1 by simp] at this
  have hG1 : Grn w ((w.alloc (.cells idz 24)).alloc (.cells nbz 32)) := ((Grn.refl w).alloc _).alloc _
  have hst : (St 32 ⟨w.heap.size + 1, 0, none⟩ (.agg (nbv pred succ))).run Ybaz.prog ((w.alloc (.cells idz 24)).alloc (.cells nbz 32)) = .ok () (((w.alloc (.cells idz 24)).alloc (.cells nbz 32)).setRow (w.heap.size + 1) (nbv pred succ)) :=
    run_storeVar_row (P := Ybaz.prog) _ (w.heap.size + 1) 32 32 nbz (nbv pred succ) h2 (by rw [info32, nbv_size]) (by rw [nbv_size]; rfl) (nbv_one _ _)
  have hG : Grn w (((w.alloc (.cells idz 24)).alloc (.cells nbz 32)).setRow (w.heap.size + 1) (nbv pred succ)) := hG1.setRow (Nat.le_succ _) _
  have b1 : IsBlk (((w.alloc (.cells idz 24)).alloc (.cells nbz 32)).setRow (w.heap.size + 1) (nbv pred succ)) w.heap.size idz 24 := h1.same (setRow_other _ _ _ _ (by omega))
  have b2 : IsBlk (((w.alloc (.cells idz 24)).alloc (.cells nbz 32)).setRow (w.heap.size + 1) (nbv pred succ)) (w.heap.size + 1) (nbv pred succ) 32 := setRow_heap _ _ _ _ _ _ h2
  have hld : (Ld 32 ⟨M, 44, none⟩).run Ybaz.prog (w.alloc (.cells idz 24)) = .ok (.agg (nbv pred succ)) (w.alloc (.cells idz 24)) :=
    run_Ld32 (range_nb (h.grn ((Grn.refl w).alloc _)).pred (h.grn ((Grn.refl w).alloc _)).succ) (nbv_size _ _)
  generalize hw2 : ((w.alloc (.cells idz 24)).alloc (.cells nbz 32)).setRow (w.heap.size + 1) (nbv pred succ) = w2 at hst hG b1 b2
  have hM2 := h.grn hG
  have r1 : (Ld 26 ⟨w.heap.size + 1, 0, none⟩).run Ybaz.prog w2 = .ok (.agg (pv pred)) w2 := run_Ld26 (nb_pred b2.range) (pv_size _)
  have r2 : (Ld 26 ⟨w.heap.size + 1, 21, none⟩).run Ybaz.prog w2 = .ok (.agg (pv (some succ))) w2 := run_Ld26 (nb_succ b2.range) (pv_size _)
  have r3 : (Ld 24 ⟨w.heap.size + 1, 0, none⟩).run Ybaz.prog w2 = .ok (.agg (idv (pred.getD 0))) w2 := run_Ld24 (range_id (nb_pred b2.range)) rfl
  have hbz := bd26z
  have hbz4 := bd24z
  have hnz := neq_peer pred none
  have sto : ∀ W x, Grn w2 W → (St 24 ⟨w.heap.size, 0, none⟩ (.agg (idv x))).run Ybaz.prog W = .ok () (W.setRow w.heap.size (idv x)) := fun W x k => run_storeVar_row (P := Ybaz.prog) W w.heap.size 24 24 idz (idv x) (b1.grn k) info24 rfl (idv_one _)
  have k1 := isSelf_any hM2 succ
  have rs : ∀ W, Grn w2 W → (Ld 24 ⟨M, 0, none⟩).run Ybaz.prog W = .ok (.agg (idv s)) W := fun W k => run_Ld24 (range_id (hM2.grn k).self) rfl
  have g2 : Grn w2 w2 := Grn.refl w2
  clear hw2 h1 h2 hG1
  simp only [idz, nbz] at hst hld
  have fin : ∀ W x, Grn w2 W → (loadVar 24 ⟨w.heap.size, 0, none⟩).run Ybaz.prog (W.setRow w.heap.size (idv x)) = .ok (.agg (idv x)) (W.setRow w.heap.size (idv x)) := fun W x k =>
    run_Ld24 (IsBlk.range (setRow_heap _ _ idz (idv x) 24 (0, 0) (b1.grn k))) rfl
  have fin2 : ∀ W x, Grn w2 W → Grn w (W.setRow w.heap.size (idv x)) := fun W x k => (hG.trans k).setRow (Nat.le_refl _) _
  cases pred with
  | some p =>
    go_enter Ybaz.func23, Ybaz.ntmps23
    go_wp2_with fail
    refine bodyPost_ret (v := .tuple #[.agg (idv p), .bool true]) ?_ rfl ⟨rfl, fin2 _ _ g2⟩
    rw [results_cell_tmp rfl]
    simp [asAddr, Result.andThen, fin _ _ g2]
  | none =>
    by_cases e : succ = s
    · have he : arcOf s none succ = (s, true) := by simp [arcOf, e]
      rw [he]
      rw [show (succ == s) = true by simpa using e] at k1
      clear he e
      go_enter Ybaz.func23, Ybaz.ntmps23
      go_wp2_with fail
      refine k1.mono ?_
      rintro e w3 ⟨rfl, j3⟩
      go_wp2_with fail
      refine bodyPost_ret (v := .tuple #[.agg (idv s), .bool true]) ?_ rfl ⟨rfl, fin2 _ _ j3⟩
      rw [results_cell_tmp rfl]
      simp [asAddr, Result.andThen, fin _ _ j3]
    · have he : arcOf s none succ = (0, false) := by simp [arcOf, e]
      rw [he]
      rw [show (succ == s) = false by simpa using e] at k1
      clear he e
      go_enter Ybaz.func23, Ybaz.ntmps23
      go_wp2_with fail
      refine k1.mono ?_
      rintro e w3 ⟨rfl, j3⟩
      go_wp2_with fail
      refine bodyPost_ret (v := .tuple #[.agg (idv 0), .bool false]) ?_ rfl ⟨rfl, fin2 _ _ j3⟩
      rw [results_cell_tmp rfl]
      simp [asAddr, Result.andThen, fin _ _ j3]

/-- Whether the member owns t. -/
def ownsB (s : UInt8) (pred : Option UInt8) (succ t : UInt8) : Bool := (arcOf s pred succ).2 && btw t (arcOf s pred succ).1 s

set_option maxHeartbeats 2000000 in
set_option maxRecDepth 100000 in
theorem owns_any {w : World} {M : Nat} {s : UInt8} {pred : Option UInt8} {succ : UInt8} {nv : Value} {C : Array Value} (h : Mem w M s pred succ nv C) (t : UInt8) :
    Calls Ybaz.prog 18 #[.pointer (some ⟨M, 0, none⟩), .agg (idv t)] w fun e w' => e = .returned (.bool (ownsB s pred succ t)) ∧ Grn w w' := by
  have hG : Grn w (w.alloc (.cells (idv t) 24)) := (Grn.refl w).alloc _
  have h0 : IsBlk (w.alloc (.cells (idv t) 24)) w.heap.size (idv t) 24 := IsBlk.new w _ _
  generalize hw0 : w.alloc (.cells (idv t) 24) = w0 at h0 hG
  have k1 := arc_any (h.grn hG)
  unfold ownsB
  generalize (arcOf s pred succ).1 = fr at k1 ⊢
  generalize (arcOf s pred succ).2 = ha at k1 ⊢
  have k2 := between_any t fr s
  generalize btw t fr s = bt at k2 ⊢
  go_enter Ybaz.func18, Ybaz.ntmps18
  go_wp2_with fail
  refine k1.mono ?_
  rintro e w1 ⟨rfl, j1⟩
  clear hw0 k1
  have b1 : IsBlk ((w1.alloc (.cells idz 24))) w1.heap.size idz 24 := IsBlk.new w1 _ _
  have hst : (St 24 ⟨w1.heap.size, 0, none⟩ (.agg (idv fr))).run Ybaz.prog (w1.alloc (.cells idz 24)) = .ok () ((w1.alloc (.cells idz 24)).setRow w1.heap.size (idv fr)) := run_storeVar_row (P := Ybaz.prog) _ w1.heap.size 24 24 idz (idv fr) b1 info24 rfl (idv_one _)
  have b2 : IsBlk ((w1.alloc (.cells idz 24)).setRow w1.heap.size (idv fr)) w1.heap.size (idv fr) 24 := setRow_heap _ _ _ _ _ _ b1
  have hG2 : Grn w1 ((w1.alloc (.cells idz 24)).setRow w1.heap.size (idv fr)) := ((Grn.refl w1).alloc _).setRow (Nat.le_refl _) _
  generalize hw2 : (w1.alloc (.cells idz 24)).setRow w1.heap.size (idv fr) = w2 at hst b2 hG2
  simp only [idz] at hst
  clear b1 hw2
  have hM2 := (h.grn hG).grn (j1.trans hG2)
  have r1 : ∀ n os, (Ld 24 ⟨w.heap.size, 0, none⟩).run Ybaz.prog (grow (w2.drewN n) os) = .ok (.agg (idv t)) (grow (w2.drewN n) os) := fun n os => run_Ld24 (((h0.grn j1).grn hG2).grn ⟨n, os, rfl⟩).range rfl
  have r2 : ∀ n os, (Ld 24 ⟨w1.heap.size, 0, none⟩).run Ybaz.prog (grow (w2.drewN n) os) = .ok (.agg (idv fr)) (grow (w2.drewN n) os) := fun n os => run_Ld24 (b2.grn ⟨n, os, rfl⟩).range rfl
  have r3 : ∀ n os, (Ld 24 ⟨M, 0, none⟩).run Ybaz.prog (grow (w2.drewN n) os) = .ok (.agg (idv s)) (grow (w2.drewN n) os) := fun n os => run_Ld24 (range_id (hM2.grn ⟨n, os, rfl⟩).self) rfl
  have gE : Grn w w2 := (hG.trans j1).trans hG2
  have gg : ∀ n os, Grn w2 (grow (w2.drewN n) os) := fun n os => ⟨n, os, rfl⟩
  clear h h0 hG j1 b2 hG2 hM2
  have mixed : Ybaz.prog.follows .mixedOrders = true := mixedY
  cases ha
  · go_wp2_with fail
    refine wp_region_quiet_grown mixedY (by kernel_rfl) ?_
    repeat (first | go_big_quiet_skip | quiet_step (fail))
    refine wpQuiet_nil ?_
    intro _ hw'
    obtain ⟨⟨nq, osq⟩, hw''⟩ := hw'
    subst hw''
    go_wp2_with fail
    go_ret
    exact ⟨rfl, gE.trans (gg _ _)⟩
  · go_wp2_with fail
    refine wp_region_quiet_grown mixedY (by kernel_rfl) ?_
    repeat (first | go_big_quiet_skip | quiet_step (first | (go_at_call 19; refine Calls.grown_of (k2 _))))
    refine wpQuiet_nil ?_
    intro _ hw'
    obtain ⟨⟨nq, osq⟩, hw''⟩ := hw'
    subst hw''
    go_wp2_with fail
    go_ret
    exact ⟨by simp, gE.trans (gg _ _)⟩
end
end Go.Proofs.YbulkdevoGreat
