/- 'blocks': the range over the blockers. -/
import Derived.Test.YbulkdetkGreatDoorB7
namespace Go.Proofs.YbulkdetkGreatDoor
open Go.RowKit Go.Shelf
set_option linter.unusedVariables false
set_option linter.unusedSimpArgs false
attribute [local go_sem] Oper.semAt_some

section laws
variable {F : Fence} {n : Nat} {P : Program} {g : Operand} {ps : Array Tmp} {body : Code} {Q : Exit → Act → World → Prop} {a : Act} {w : World}

/-- A range over a function that yields nothing and turns nothing that lay. -/
theorem range_none {assign : Code} (hro : F.round = none) (h1 : 1 ≤ n) {gf : Nat} {lb : Array Value} (hg : a.eval g = .func (.func gf) #[] lb) (hFg : F.fn gf) (eg : ∀ args w, (callFunc gf args).run P w = .ok (.enter gf args) w)
    (hcall : ∀ W l, Grew w W → CallsIn F (n - 1) P gf (#[.func (.yield l) #[] #[]] ++ lb) W fun e W' => (∃ v, e = .returned v) ∧ Grew W W')
    (hdone : ∀ W, Grew w W → W.heap[w.heap.size]? = some (.deferred (some [])) → Q .normal { a with defers := { target := .collected w.heap.size, args := #[] } :: a.defers } W) :
    (Code.rangeFunc g ps assign body).wpIn F n P Q a w := by
  refine wpIn_rangeFunc ?_
  intro fn hfn
  rw [hro]
  obtain ⟨rec, hrec⟩ : ∃ rec : Loop, rec = { state := .ready, pending := none, fn, tmps := a.tmps, params := ps, assign, body, defers := w.heap.size } := ⟨_, rfl⟩
  have he := run_enterLoop_outer (P := P) (w := w) fn a.tmps ps assign body
  rw [← hrec] at he
  obtain ⟨W0, hW0⟩ : ∃ W0, (w.alloc (.deferred (some []))).alloc (.loop rec) = W0 := ⟨_, rfl⟩
  have hgr : Grew w W0 := by rw [← hW0]; exact ((Turn.refl _ w).alloc _).alloc _
  have k1 : W0.heap[w.heap.size + 1]? = some (.loop rec) := by
    rw [← hW0]
    have := World.alloc_heap_new (w.alloc (.deferred (some []))) (.loop rec)
    rwa [World.size_alloc] at this
  have k0 : W0.heap[w.heap.size]? = some (.deferred (some [])) := by
    rw [← hW0]
    exact (Below.heap_alloc _ _ _ (by simp)).trans (World.alloc_heap_new w _)
  have hst : rec.state ≠ .busy := by rw [hrec]; simp
  have hpe : rec.pending = none := by rw [hrec]
  rw [hW0] at he
  clear hrec hW0
  have hc := hcall W0 (w.heap.size + 1) hgr
  refine ⟨w.heap.size + 1, [{ target := .collected w.heap.size, args := #[] }], W0, { target := .fn (.func gf) lb, args := #[.func (.yield (w.heap.size + 1)) #[] #[]] }, W0, gf, #[.func (.yield (w.heap.size + 1)) #[] #[]] ++ lb, W0, he, ?_, ?_, ?_, fun _ => h1, ?_⟩
  · simp only [resolve, hg]
    simp [go_sem]
  · intro f' hf'
    simp [Target.leads] at hf'
    subst hf'
    exact hFg
  · simp [invoke, go_sem, eg]
  · refine hc.mono ?_
    rintro e W' ⟨⟨v, rfl⟩, hW⟩
    have l1 : W'.heap[w.heap.size + 1]? = some (.loop rec) := (hW.block _ (Array.getElem?_eq_some_iff.1 k1).1 (by simp)).trans k1
    have l0 : W'.heap[w.heap.size]? = some (.deferred (some [])) := (hW.block _ (Array.getElem?_eq_some_iff.1 k0).1 (by simp)).trans k0
    have hend := run_endLoop (P := P) l1 hst
    rw [hpe] at hend
    exact ⟨none, _, hend, hdone _ ((hgr.trans hW).putObj (Or.inr (by omega)) _) ((World.putObj_heap_other (by omega)).trans l0)⟩

/-- A range over a function that yields once, where the body writes one cell and returns. -/
theorem range_leave (hro : F.round = none) (h1 : 1 ≤ n) {gf : Nat} {lb : Array Value} (hg : a.eval g = .func (.func gf) #[] lb) (hFg : F.fn gf) (eg : ∀ args w, (callFunc gf args).run P w = .ok (.enter gf args) w)
    (x : Array Value) (hps : x.size = ps.size) (c i : Nat) (u v : Value) (hc : w.cell? ⟨c, i, none⟩ = some u)
    (hcall : ∀ W l (R : World → Prop), Grew w W → (∀ W1, Grew W W1 → YieldAt F (n - 1 - 1) P l x W1 fun e W' => e = .returned (.bool false) ∧ R W') →
      CallsIn F (n - 1) P gf (#[.func (.yield l) #[] #[]] ++ lb) W fun e W' => (∃ v, e = .returned v) ∧ R W')
    (hbody : ∀ l W, W.cell? ⟨c, i, none⟩ = some u → W.frozen? ⟨c, i, none⟩ = w.frozen? ⟨c, i, none⟩ → body.wpIn (F.inRound l) (n - 1 - 1) P (fun e _ W' => e = .ret ∧ W' = W.setCell ⟨c, i, none⟩ v) { tmps := (ps.zip x).foldl (fun t (p, v) => t.setIfInBounds p v) a.tmps, defers := [] } W)
    (hstop : ∀ W, Turn (· = c) w W → W.cell? ⟨c, i, none⟩ = some v → W.heap[w.heap.size]? = some (.deferred (some [])) → Code.ret.wpIn F n P Q { a with defers := { target := .collected w.heap.size, args := #[] } :: a.defers } W) :
    (Code.rangeFunc g ps .skip body).wpIn F n P Q a w := by
  have hclt : c < w.heap.size := by
    by_cases h : c < w.heap.size
    · exact h
    · simp [World.cell?, Array.getElem?_eq_none (Nat.le_of_not_lt h)] at hc
  refine wpIn_rangeFunc ?_
  intro fn hfn
  rw [hro]
  obtain ⟨rec, hrec⟩ : ∃ rec : Loop, rec = { state := .ready, pending := none, fn, tmps := a.tmps, params := ps, assign := .skip, body, defers := w.heap.size } := ⟨_, rfl⟩
  have he := run_enterLoop_outer (P := P) (w := w) fn a.tmps ps .skip body
  rw [← hrec] at he
  obtain ⟨W0, hW0⟩ : ∃ W0, (w.alloc (.deferred (some []))).alloc (.loop rec) = W0 := ⟨_, rfl⟩
  have hgr : Grew w W0 := by rw [← hW0]; exact ((Turn.refl _ w).alloc _).alloc _
  have k1 : W0.heap[w.heap.size + 1]? = some (.loop rec) := by
    rw [← hW0]
    have := World.alloc_heap_new (w.alloc (.deferred (some []))) (.loop rec)
    rwa [World.size_alloc] at this
  have k0 : W0.heap[w.heap.size]? = some (.deferred (some [])) := by
    rw [← hW0]
    exact (Below.heap_alloc _ _ _ (by simp)).trans (World.alloc_heap_new w _)
  have r1 : rec.state = .ready := by rw [hrec]
  have r2 : rec.params = ps := by rw [hrec]
  have r3 : rec.fn = fn := by rw [hrec]
  have r4 : rec.assign = .skip := by rw [hrec]
  have r5 : rec.body = body := by rw [hrec]
  have r6 : rec.tmps = a.tmps := by rw [hrec]
  rw [hW0] at he
  clear hrec hW0
  have hc0 := hcall W0 (w.heap.size + 1) (fun W' => Turn (· = c) w W' ∧ W'.cell? ⟨c, i, none⟩ = some v ∧ W'.heap[w.heap.size + 1]? = some (.loop { rec with state := .done, pending := some .ret }) ∧ W'.heap[w.heap.size]? = some (.deferred (some []))) hgr
  have hround : ∀ W1, Grew W0 W1 → YieldAt F (n - 1 - 1) P (w.heap.size + 1) x W1 fun e W' => e = .returned (.bool false) ∧ (Turn (· = c) w W' ∧ W'.cell? ⟨c, i, none⟩ = some v ∧ W'.heap[w.heap.size + 1]? = some (.loop { rec with state := .done, pending := some .ret }) ∧ W'.heap[w.heap.size]? = some (.deferred (some []))) := by
    intro W1 hW1
    have t1 := hgr.trans hW1
    have l1 : W1.heap[w.heap.size + 1]? = some (.loop rec) := (hW1.block _ (Array.getElem?_eq_some_iff.1 k1).1 (by simp)).trans k1
    have l0 : W1.heap[w.heap.size]? = some (.deferred (some [])) := (hW1.block _ (Array.getElem?_eq_some_iff.1 k0).1 (by simp)).trans k0
    have hlt1 := (Array.getElem?_eq_some_iff.1 l1).1
    have hy := run_yield (P := P) (args := x) l1 (by rw [r2]; exact hps)
    rw [r2, r3, r4, r5, r6] at hy
    have hbg := run_beginRound (P := P) l1 r1
    obtain ⟨W2, hW2⟩ : ∃ W2, W1.putObj (w.heap.size + 1) (.loop { rec with state := .busy }) = W2 := ⟨_, rfl⟩
    rw [hW2] at hbg
    have t2 : Grew w W2 := by rw [← hW2]; exact t1.putObj (Or.inr (by omega)) _
    have l2 : W2.heap[w.heap.size + 1]? = some (.loop { rec with state := .busy }) := by rw [← hW2]; exact World.putObj_heap_same hlt1
    have l20 : W2.heap[w.heap.size]? = some (.deferred (some [])) := by rw [← hW2]; exact (World.putObj_heap_other (by omega)).trans l0
    have c2 : W2.cell? ⟨c, i, none⟩ = some u := (t2.cell hclt (by simp)).trans hc
    have f2 : W2.frozen? ⟨c, i, none⟩ = w.frozen? ⟨c, i, none⟩ := t2.frozen hclt (by simp)
    have hb := hbody (w.heap.size + 1) W2 c2 f2
    clear hW2
    refine ⟨fn, _, .skip, body, hy, roundIn_of_wpIn hfn (wpIn_skip ⟨_, hbg, wpIn_mono hb ?_⟩)⟩
    rintro e a3 W3 ⟨rfl, rfl⟩
    have l3 : (W2.setCell ⟨c, i, none⟩ v).heap[w.heap.size + 1]? = some (.loop { rec with state := .busy }) := (Below.heap_setCell _ _ _ _ (by show w.heap.size + 1 ≠ c; omega)).trans l2
    have l30 : (W2.setCell ⟨c, i, none⟩ v).heap[w.heap.size]? = some (.deferred (some [])) := (Below.heap_setCell _ _ _ _ (by show w.heap.size ≠ c; omega)).trans l20
    have t3 : Turn (· = c) w (W2.setCell ⟨c, i, none⟩ v) := (Turn.of_grew (M := (· = c)) t2).setCell (p := ⟨c, i, none⟩) (Or.inl rfl) v
    have h3 : (W2.setCell ⟨c, i, none⟩ v).cell? ⟨c, i, none⟩ = some v := World.cell?_setCell_same' _ _ _ (by rw [c2]; rfl)
    refine ⟨_, _, run_endRound (some .ret) l3, rfl, t3.putObj (Or.inr (by omega)) _, ?_, World.putObj_heap_same (Array.getElem?_eq_some_iff.1 l3).1, (World.putObj_heap_other (by omega)).trans l30⟩
    rw [← h3]
    exact World.cell?_of_block (World.putObj_heap_other (by show c ≠ _; omega))
  refine ⟨w.heap.size + 1, [{ target := .collected w.heap.size, args := #[] }], W0, { target := .fn (.func gf) lb, args := #[.func (.yield (w.heap.size + 1)) #[] #[]] }, W0, gf, #[.func (.yield (w.heap.size + 1)) #[] #[]] ++ lb, W0, he, ?_, ?_, ?_, fun _ => h1, ?_⟩
  · simp only [resolve, hg]
    simp [go_sem]
  · intro f' hf'
    simp [Target.leads] at hf'
    subst hf'
    exact hFg
  · simp [invoke, go_sem, eg]
  · refine (hc0 hround).mono ?_
    rintro e W' ⟨⟨r, rfl⟩, tW, hcW, lW, l0W⟩
    have hend := run_endLoop (P := P) lW (by simp)
    refine ⟨some .ret, _, hend, hstop _ (tW.putObj (Or.inr (by omega)) _) ?_ ((World.putObj_heap_other (by omega)).trans l0W)⟩
    rw [← hcW]
    exact World.cell?_of_block (World.putObj_heap_other (by show c ≠ _; omega))
end laws

set_option maxRecDepth 100000 in
set_option maxHeartbeats 1000000 in
theorem blockers_in (n A X : Nat) (qv : Option Addr) (m : Nat) (g i : Bool) (w : World) :
    CallsIn Fence.wide n Ybaz.prog 34 #[.pointer (some ⟨A, 0, none⟩), (.agg #[.string { data := #[116] }, .bool false, .int .u8 0, .int .i64 0, .string { data := #[] }]), .pointer qv, .pointer (some ⟨X, 0, none⟩), .agg #[.int .u8 m, .bool g, .bool i], .int .i64 0] w fun e w' =>
      e = .returned (.func (.func 47) #[] #[.pointer (some ⟨w.heap.size + 1 + 1, 0, none⟩), .pointer (some ⟨w.heap.size + 1 + 1 + 1, 0, none⟩), .pointer (some ⟨w.heap.size + 1 + 1 + 1 + 1, 0, none⟩), .pointer (some ⟨w.heap.size, 0, none⟩), .pointer (some ⟨w.heap.size + 1, 0, none⟩), .pointer (some ⟨w.heap.size + 1 + 1 + 1 + 1 + 1, 0, none⟩)]) ∧ Grew w w' ∧ Caps w' w.heap.size A X qv m g i := by
  have hC : Caps ((((((w.alloc (.cells #[.pointer (some ⟨A, 0, none⟩)] 23)).alloc (.cells #[.string { data := #[116] }, .bool false, .int .u8 0, .int .i64 0, .string { data := #[] }] 69)).alloc (.cells #[.pointer qv] 93)).alloc (.cells #[.pointer (some ⟨X, 0, none⟩)] 25)).alloc (.cells #[.int .u8 m, .bool g, .bool i] 73)).alloc (.cells #[.int .i64 0] 3)) w.heap.size A X qv m g i := by
    have z := Turn.refl (fun _ => False)
    refine ⟨?_, ?_, ?_, ?_, ?_, ?_⟩
    · exact (IsBlk.new w _ 23).turn ((((((z _).alloc _).alloc _).alloc _).alloc _).alloc _) (by simp)
    · have := (IsBlk.new (w.alloc (.cells #[.pointer (some ⟨A, 0, none⟩)] 23)) #[.string { data := #[116] }, .bool false, .int .u8 0, .int .i64 0, .string { data := #[] }] 69).turn (((((z _).alloc (.cells #[.pointer qv] 93)).alloc (.cells #[.pointer (some ⟨X, 0, none⟩)] 25)).alloc (.cells #[.int .u8 m, .bool g, .bool i] 73)).alloc (.cells #[.int .i64 0] 3)) (by simp)
      simpa using this
    · have := (IsBlk.new ((w.alloc (.cells #[.pointer (some ⟨A, 0, none⟩)] 23)).alloc (.cells #[.string { data := #[116] }, .bool false, .int .u8 0, .int .i64 0, .string { data := #[] }] 69)) #[.pointer qv] 93).turn ((((z _).alloc (.cells #[.pointer (some ⟨X, 0, none⟩)] 25)).alloc (.cells #[.int .u8 m, .bool g, .bool i] 73)).alloc (.cells #[.int .i64 0] 3)) (by simp)
      simpa using this
    · have := (IsBlk.new (((w.alloc (.cells #[.pointer (some ⟨A, 0, none⟩)] 23)).alloc (.cells #[.string { data := #[116] }, .bool false, .int .u8 0, .int .i64 0, .string { data := #[] }] 69)).alloc (.cells #[.pointer qv] 93)) #[.pointer (some ⟨X, 0, none⟩)] 25).turn (((z _).alloc (.cells #[.int .u8 m, .bool g, .bool i] 73)).alloc (.cells #[.int .i64 0] 3)) (by simp)
      simpa using this
    · have := (IsBlk.new ((((w.alloc (.cells #[.pointer (some ⟨A, 0, none⟩)] 23)).alloc (.cells #[.string { data := #[116] }, .bool false, .int .u8 0, .int .i64 0, .string { data := #[] }] 69)).alloc (.cells #[.pointer qv] 93)).alloc (.cells #[.pointer (some ⟨X, 0, none⟩)] 25)) #[.int .u8 m, .bool g, .bool i] 73).turn ((z _).alloc (.cells #[.int .i64 0] 3)) (by simp)
      simpa using this
    · have := (IsBlk.new (((((w.alloc (.cells #[.pointer (some ⟨A, 0, none⟩)] 23)).alloc (.cells #[.string { data := #[116] }, .bool false, .int .u8 0, .int .i64 0, .string { data := #[] }] 69)).alloc (.cells #[.pointer qv] 93)).alloc (.cells #[.pointer (some ⟨X, 0, none⟩)] 25)).alloc (.cells #[.int .u8 m, .bool g, .bool i] 73)) #[.int .i64 0] 3)
      simpa using this
  refine callsIn_of_wp Ybaz.func34 rfl trivial ?_ rfl
  simp only [Ybaz.ntmps34, List.size_toArray, List.length_cons, List.length_nil, Nat.reduceAdd, Nat.reduceSub, Array.replicate_succ, Array.replicate_zero, List.push_toArray, List.append_toArray, List.nil_append, List.cons_append]
  gi_wp2
  go_ret
  exact ⟨rfl, ((((((Turn.refl _ w).alloc _).alloc _).alloc _).alloc _).alloc _).alloc _, hC⟩

set_option maxRecDepth 100000 in
set_option maxHeartbeats 2000000 in
/-- Nobody blocks: whatever the closure's contract. -/
theorem blocks_no (A X : Nat) (qv : Option Addr) (m : Nat) (g i : Bool) (w : World)
    (hno : ∀ l s W, Grew w W → Caps W s A X qv m g i →
      CallsIn Fence.wide (10 - 1) Ybaz.prog 47 #[.func (.yield l) #[] #[], .pointer (some ⟨s + 1 + 1, 0, none⟩), .pointer (some ⟨s + 1 + 1 + 1, 0, none⟩), .pointer (some ⟨s + 1 + 1 + 1 + 1, 0, none⟩), .pointer (some ⟨s, 0, none⟩), .pointer (some ⟨s + 1, 0, none⟩), .pointer (some ⟨s + 1 + 1 + 1 + 1 + 1, 0, none⟩)] W fun e W' => (∃ v, e = .returned v) ∧ Grew W W') :
    Calls Ybaz.prog 18 #[.pointer (some ⟨A, 0, none⟩), (.agg #[.string { data := #[116] }, .bool false, .int .u8 0, .int .i64 0, .string { data := #[] }]), .pointer qv, .pointer (some ⟨X, 0, none⟩), .agg #[.int .u8 m, .bool g, .bool i], .int .i64 0] w fun e w' => e = .returned (.bool false) ∧ Grew w w' := by
  refine (callsIn_wide (n := 10)).1 ?_
  have hW : Grew w (((w.alloc (.cells #[.string { data := #[116] }, .bool false, .int .u8 0, .int .i64 0, .string { data := #[] }] 69)).alloc (.cells #[.int .u8 m, .bool g, .bool i] 73)).alloc (.cells #[.bool false] 4)) := (((Turn.refl _ w).alloc _).alloc _).alloc _
  have hR : IsBlk (((w.alloc (.cells #[.string { data := #[116] }, .bool false, .int .u8 0, .int .i64 0, .string { data := #[] }] 69)).alloc (.cells #[.int .u8 m, .bool g, .bool i] 73)).alloc (.cells #[.bool false] 4)) (w.heap.size + 1 + 1) #[.bool false] 4 := by
    have := IsBlk.new ((w.alloc (.cells #[.string { data := #[116] }, .bool false, .int .u8 0, .int .i64 0, .string { data := #[] }] 69)).alloc (.cells #[.int .u8 m, .bool g, .bool i] 73)) #[.bool false] 4
    simpa using this
  refine callsIn_of_wp_marks Ybaz.func18 rfl trivial ?_ rfl
  simp only [Ybaz.ntmps18, List.size_toArray, List.length_cons, List.length_nil, Nat.reduceAdd, Nat.reduceSub, Array.replicate_succ, Array.replicate_zero, List.push_toArray, List.append_toArray, List.nil_append, List.cons_append]
  gi_wp2_with fail
  refine ⟨trivial, ?_⟩
  refine (blockers_in _ A X qv m g i _).mono ?_
  rintro e w3 ⟨rfl, hw3, hc3⟩
  have hg3 := hW.trans hw3
  have hR3 := hR.turn hw3 (by simp)
  simp only [World.size_alloc] at hc3
  gi_wp2_with fail
  refine range_none (F := Fence.wide) rfl (by decide) (gf := 47) rfl trivial (enters_of Ybaz.func47 (by kernel_rfl) rfl) (fun W l hWl => by
    exact hno l (w.heap.size + 1 + 1 + 1) W (hg3.trans hWl) (hc3.grew hWl)) ?_
  intro W4 hW4 hD
  have hg4 := hg3.trans hW4
  have hR4 := hR3.turn hW4 (by simp)
  have r0 := hR4.c0
  have f0 := hR4.frozen 0
  gi_wp2_with fail
  have hD' : (W4.setCell ⟨w.heap.size + 1 + 1, 0, none⟩ (.bool false)).heap[w3.heap.size]? = some (.deferred (some [])) := (Below.heap_setCell _ _ _ _ (by show w3.heap.size ≠ w.heap.size + 1 + 1; have := hR3.lt; omega)).trans hD
  refine ⟨by simp, .inl ⟨_, _, rfl, run_takeDeferred hD', ?_⟩⟩
  have hR5 := hR4.set 0 (.bool false)
  have hR6 : ((W4.setCell ⟨w.heap.size + 1 + 1, 0, none⟩ (.bool false)).putObj w3.heap.size (.deferred none)).cell? ⟨w.heap.size + 1 + 1, 0, none⟩ = some (.bool false) :=
    (World.cell?_of_block (World.putObj_heap_other (by show w.heap.size + 1 + 1 ≠ w3.heap.size; have := hR3.lt; omega))).trans ((hR5.cell 0).trans rfl)
  refine ⟨.bool false, ?_, rfl, (hg4.setCell (p := ⟨w.heap.size + 1 + 1, 0, none⟩) (Or.inr (by simp; omega)) _).putObj (Or.inr hg3.size) _⟩
  simp [results, Ybaz.f18, go_sem, hR6]

set_option maxRecDepth 100000 in
set_option maxHeartbeats 2000000 in
/-- An insert is blocked by another that holds the gap. -/
theorem blocks_yes (A X Q G cap T m m' : Nat) (g : Bool) (w : World) (hH : Hold w Q G cap T m' true) (hP : PEq w T X false) :
    Calls Ybaz.prog 18 #[.pointer (some ⟨A, 0, none⟩), (.agg #[.string { data := #[116] }, .bool false, .int .u8 0, .int .i64 0, .string { data := #[] }]), .pointer (some ⟨Q, 0, none⟩), .pointer (some ⟨X, 0, none⟩), .agg #[.int .u8 m, .bool g, .bool true], .int .i64 0] w fun e w' => e = .returned (.bool true) ∧ Grew w w' := by
  refine (callsIn_wide (n := 10)).1 ?_
  have hW : Grew w (((w.alloc (.cells #[.string { data := #[116] }, .bool false, .int .u8 0, .int .i64 0, .string { data := #[] }] 69)).alloc (.cells #[.int .u8 m, .bool g, .bool true] 73)).alloc (.cells #[.bool false] 4)) := (((Turn.refl _ w).alloc _).alloc _).alloc _
  have hR : IsBlk (((w.alloc (.cells #[.string { data := #[116] }, .bool false, .int .u8 0, .int .i64 0, .string { data := #[] }] 69)).alloc (.cells #[.int .u8 m, .bool g, .bool true] 73)).alloc (.cells #[.bool false] 4)) (w.heap.size + 1 + 1) #[.bool false] 4 := by
    have := IsBlk.new ((w.alloc (.cells #[.string { data := #[116] }, .bool false, .int .u8 0, .int .i64 0, .string { data := #[] }] 69)).alloc (.cells #[.int .u8 m, .bool g, .bool true] 73)) #[.bool false] 4
    simpa using this
  refine callsIn_of_wp_marks Ybaz.func18 rfl trivial ?_ rfl
  simp only [Ybaz.ntmps18, List.size_toArray, List.length_cons, List.length_nil, Nat.reduceAdd, Nat.reduceSub, Array.replicate_succ, Array.replicate_zero, List.push_toArray, List.append_toArray, List.nil_append, List.cons_append]
  gi_wp2_with fail
  refine ⟨trivial, ?_⟩
  refine (blockers_in _ A X (some ⟨Q, 0, none⟩) m g true _).mono ?_
  rintro e w3 ⟨rfl, hw3, hc3⟩
  have hg3 := hW.trans hw3
  have hR3 := hR.turn hw3 (by simp)
  simp only [World.size_alloc] at hc3
  have r3 := hR3.c0
  have f3 := hR3.frozen 0
  gi_wp2_with fail
  refine range_leave (F := Fence.wide) rfl (by decide) (gf := 47) rfl trivial (enters_of Ybaz.func47 (by kernel_rfl) rfl) #[.pointer (some ⟨T, 0, none⟩)] rfl (w.heap.size + 1 + 1) 0 (.bool false) (.bool true) r3 (fun W l R hWl hY => by
    exact blk_yield (10 - 1) l (w.heap.size + 1 + 1 + 1) A X m Q G cap T m' g R W (by decide) (hc3.grew hWl) (hH.grew (hg3.trans hWl)) (hP.grew (hg3.trans hWl)) hY) ?_ ?_
  · intro l W hc hf
    rw [f3] at hf
    gi_wp2_with fail
  · intro W4 hW4 hc4 hD
    gi_wp2_with fail
    refine ⟨by simp, .inl ⟨_, _, rfl, run_takeDeferred hD, ?_⟩⟩
    have hR6 : (W4.putObj w3.heap.size (.deferred none)).cell? ⟨w.heap.size + 1 + 1, 0, none⟩ = some (.bool true) :=
      (World.cell?_of_block (World.putObj_heap_other (by show w.heap.size + 1 + 1 ≠ w3.heap.size; have := hR3.lt; omega))).trans hc4
    refine ⟨.bool true, ?_, rfl, (hg3.then hW4 (fun k hk e => by omega)).putObj (Or.inr hg3.size) _⟩
    simp [results, Ybaz.f18, go_sem, hR6]

/-- Nobody has a state at the target. -/
theorem blocks_nil (A X m : Nat) (g i : Bool) (w : World) :
    Calls Ybaz.prog 18 #[.pointer (some ⟨A, 0, none⟩), (.agg #[.string { data := #[116] }, .bool false, .int .u8 0, .int .i64 0, .string { data := #[] }]), .pointer none, .pointer (some ⟨X, 0, none⟩), .agg #[.int .u8 m, .bool g, .bool i], .int .i64 0] w fun e w' => e = .returned (.bool false) ∧ Grew w w' :=
  blocks_no A X none m g i w fun l s W _ hC => blk_nil (10 - 1) l s A X m g i W (by decide) hC
/-- He who asks is he who holds. -/
theorem blocks_same (A Q G cap T m m' : Nat) (g i g' : Bool) (w : World) (hH : Hold w Q G cap T m' g') :
    Calls Ybaz.prog 18 #[.pointer (some ⟨A, 0, none⟩), (.agg #[.string { data := #[116] }, .bool false, .int .u8 0, .int .i64 0, .string { data := #[] }]), .pointer (some ⟨Q, 0, none⟩), .pointer (some ⟨T, 0, none⟩), .agg #[.int .u8 m, .bool g, .bool i], .int .i64 0] w fun e w' => e = .returned (.bool false) ∧ Grew w w' :=
  blocks_no A T (some ⟨Q, 0, none⟩) m g i w fun l s W hW hC => blk_same (10 - 1) l s A T m Q G cap T m' g i g' W (by decide) hC (hH.grew hW) ((PEq.same w T).grew hW)
/-- An insert of another's: blocked just where the gap is held. -/
theorem blocks_insert (A X Q G cap T m m' : Nat) (g g' : Bool) (w : World) (hH : Hold w Q G cap T m' g') (hP : PEq w T X false) :
    Calls Ybaz.prog 18 #[.pointer (some ⟨A, 0, none⟩), (.agg #[.string { data := #[116] }, .bool false, .int .u8 0, .int .i64 0, .string { data := #[] }]), .pointer (some ⟨Q, 0, none⟩), .pointer (some ⟨X, 0, none⟩), .agg #[.int .u8 m, .bool g, .bool true], .int .i64 0] w fun e w' => e = .returned (.bool g') ∧ Grew w w' := by
  cases g'
  · exact blocks_no A X (some ⟨Q, 0, none⟩) m g true w fun l s W hW hC => blk_free (10 - 1) l s A X m Q G cap T m' g W (by decide) hC (hH.grew hW) (hP.grew hW)
  · exact blocks_yes A X Q G cap T m m' g w hH hP
end Go.Proofs.YbulkdetkGreatDoor
