/- The step asked through a carrier: the closures within. -/
import Derived.Test.YbulkdevoGreatQ11
namespace Go.Proofs.YbulkdevoGreat
open Go.RowKit Go.Sort
set_option linter.unusedVariables false
set_option linter.unusedSimpArgs false

/-- A member that a step can be asked of; it and its list lie below B. -/
def Ready (w : World) (B M : Nat) (s : UInt8) (pred : Option UInt8) (succ : UInt8) (fl ns : List UInt8) : Prop :=
  ∃ N ncap C, Mem w M s pred succ (.slice (some ⟨N, 0, none⟩) ns.length ncap) C ∧ w.rangeAt N 0 (flat ns) ∧ N < B ∧ M < B ∧ B ≤ w.heap.size ∧ N ≠ M ∧ ns.length ≤ 2000 ∧ fl.length ≤ 160 ∧ C.size = 3360 ∧ (∀ i, i < 160 → C.extract (i * 21) (i * 21 + 21) = pv fl[i]?)
    ∧ w.cell? ⟨M, 42, none⟩ = some (.int .i32 0) ∧ w.frozen? ⟨M, 42, none⟩ = false

theorem Ready.turn {w w' : World} {B M : Nat} {s : UInt8} {pred : Option UInt8} {succ : UInt8} {fl ns : List UInt8} (h : Ready w B M s pred succ fl ns) {T : Nat → Prop} (k : Turn T w w') (hT : ∀ i, T i → B ≤ i) : Ready w' B M s pred succ fl ns := by
  obtain ⟨N, ncap, C, h1, h2, h3, h4, h5, h6, h7, h8, h9, h10, h11, h12⟩ := h
  have eM : w'.heap[M]? = w.heap[M]? := k.block M (by omega) (fun e => by have := hT _ e; omega)
  have eN : w'.heap[N]? = w.heap[N]? := k.block N (by omega) (fun e => by have := hT _ e; omega)
  exact ⟨N, ncap, C, h1.same eM k.size, rangeAt_same h2 eN, h3, h4, Nat.le_trans h5 k.size, h6, h7, h8, h9, h10, (World.cell?_of_block (a := ⟨M, 42, none⟩) eM).trans h11, (World.frozen?_of_block (a := ⟨M, 42, none⟩) eM).trans h12⟩
theorem Ready.grn {w w' : World} {B M : Nat} {s : UInt8} {pred : Option UInt8} {succ : UInt8} {fl ns : List UInt8} (h : Ready w B M s pred succ fl ns) (k : Grn w w') : Ready w' B M s pred succ fl ns := h.turn k.grew (fun _ e => e.elim)
theorem Ready.lt {w : World} {B M : Nat} {s : UInt8} {pred : Option UInt8} {succ : UInt8} {fl ns : List UInt8} (h : Ready w B M s pred succ fl ns) : M < B ∧ B ≤ w.heap.size := by
  obtain ⟨N, ncap, C, h1, h2, h3, h4, h5, _⟩ := h
  exact ⟨h4, h5⟩

theorem step_ready {w : World} {B M : Nat} {s t : UInt8} {pred : Option UInt8} {succ : UInt8} {fl ns : List UInt8} (h : Ready w B M s pred succ fl ns) :
    Calls Ybaz.prog 13 #[.pointer (some ⟨M, 0, none⟩), .agg (idv t)] w fun e w' => ∃ v, e = .returned (.tuple #[v, .bool (stepB s pred succ t)]) ∧ Row w' v (stepL s pred succ t fl ns) ∧ (∀ b, v.ownBlock = some b → w.heap.size ≤ b) ∧ Turn (· = M) w w' := by
  obtain ⟨N, ncap, C, h1, h2, h3, h4, h5, h6, h7, h8, h9, h10, h11, h12⟩ := h
  exact step_any h1 h2 (by omega) h6 h7 h8 h9 h10 h11 h12

theorem Row.slice {w : World} {v : Value} {ks : List UInt8} (h : Row w v ks) : ∃ a n c, v = .slice a n c := by
  rcases h with ⟨a, c, rfl, _⟩ | ⟨g, o, c, rfl, _⟩
  · exact ⟨_, _, _, rfl⟩
  · exact ⟨_, _, _, rfl⟩
theorem Row.turn {w w' : World} {v : Value} {ks : List UInt8} (h : Row w v ks) {T : Nat → Prop} (k : Turn T w w') (hT : ∀ b, v.ownBlock = some b → ¬ T b) : Row w' v ks := by
  rcases h with h | ⟨g, o, c, rfl, hg, hl⟩
  · exact .inl h
  · exact .inr ⟨g, o, c, rfl, Nat.lt_of_lt_of_le hg k.size, hl.same (k.block g hg (hT g rfl))⟩

/-- Two stores into a block of two cells. -/
theorem IsBlk.set2 {w : World} {b : Nat} {x y u v : Value} {t : TypeId} (h : IsBlk w b #[x, y] t) : IsBlk ((w.setCell ⟨b, 0, none⟩ u).setCell ⟨b, 1, none⟩ v) b #[u, v] t := by
  have := (h.set 0 u).set 1 v
  simpa using this
theorem turn_set2 (w : World) (b : Nat) (u v : Value) : Turn (· = b) w ((w.setCell ⟨b, 0, none⟩ u).setCell ⟨b, 1, none⟩ v) := (Turn.set1 w b 0 u).setCell (p := ⟨b, 1, none⟩) (.inl rfl) v

section
attribute [local go_sem ↓] fold_ld24 fold_st24
set_option maxHeartbeats 4000000 in
set_option maxRecDepth 100000 in
theorem answer_any {w : World} {B M tb : Nat} {s t : UInt8} {pred : Option UInt8} {succ : UInt8} {fl ns : List UInt8} (h : Ready w B M s pred succ fl ns) (hb : IsBlk w tb (idv t) 24) (cx : Value) :
    Calls Ybaz.prog 12 #[cx, .pointer (some ⟨M, 0, none⟩), .pointer (some ⟨tb, 0, none⟩)] w fun e w' => ∃ v, e = .returned (.tuple #[.agg #[v, .bool (stepB s pred succ t)], .nilIface]) ∧ Row w' v (stepL s pred succ t fl ns) ∧ (∀ b, v.ownBlock = some b → w.heap.size ≤ b) ∧ Turn (· = M) w w' := by
  have hG : Grn w (w.alloc (.cells #[.slice none 0 0, .bool false] 92)) := (Grn.refl w).alloc _
  have b1 : IsBlk (w.alloc (.cells #[.slice none 0 0, .bool false] 92)) w.heap.size #[.slice none 0 0, .bool false] 92 := IsBlk.new w _ _
  have hs : (w.alloc (.cells #[.slice none 0 0, .bool false] 92)).heap.size = w.heap.size + 1 := by simp
  generalize hw0 : w.alloc (.cells #[.slice none 0 0, .bool false] 92) = w0 at hG b1 hs
  have l1 : (Ld 24 ⟨tb, 0, none⟩).run Ybaz.prog w0 = .ok (.agg (idv t)) w0 := run_Ld24 (hb.grn hG).range rfl
  have k13 := step_ready (t := t) (h.grn hG)
  have HLT := h.lt
  have HS : Aside (w0.heap.size = w.heap.size + 1 ∧ M < w.heap.size) := ⟨hs, by omega⟩
  have HB : Aside (IsBlk w0 w.heap.size #[.slice none 0 0, .bool false] 92) := b1
  clear h hb b1 HLT hs
  go_enter Ybaz.func12, Ybaz.ntmps12
  go_wp2_with fail
  refine k13.mono ?_
  rintro e w1 ⟨v, rfl, hrow, hfr, htu⟩
  clear k13 l1 hw0
  obtain ⟨va, vn, vc, rfl⟩ := hrow.slice
  have B1 : Aside (IsBlk w1 w.heap.size #[.slice none 0 0, .bool false] 92) := HB.out.turn htu (by have := HS.out; omega)
  have c0 := B1.out.cell 0
  have c1 := B1.out.cell 1
  have f0 := B1.out.frozen 0
  have f1 := B1.out.frozen 1
  simp at c0 c1
  have HR : Aside (Row w1 (.slice va vn vc) (stepL s pred succ t fl ns)) := hrow
  have HF : Aside (∀ b, (Value.slice va vn vc).ownBlock = some b → w0.heap.size ≤ b) := hfr
  clear hrow hfr
  go_wp2_with fail
  have B2 := B1.out.set2 (u := .slice va vn vc) (v := .bool (stepB s pred succ t))
  have T2 := turn_set2 w1 w.heap.size (.slice va vn vc) (.bool (stepB s pred succ t))
  refine bodyPost_ret (v := .tuple #[.agg #[.slice va vn vc, .bool (stepB s pred succ t)], .nilIface]) ?_ rfl ⟨_, rfl, HR.out.turn T2 (fun b e => by have := HF.out b e; have := HS.out; omega), fun b e => by have := HF.out b e; have := HS.out; omega, ((Turn.of_grew hG.grew).trans htu).then T2 (fun i hi e => by omega)⟩
  rw [results_cell_tmp rfl]
  have z0 := B2.cell 0
  have z1 := B2.cell 1
  simp at z0 z1
  simp [asAddr, Result.andThen, go_sem, z0, z1]

set_option maxHeartbeats 4000000 in
set_option maxRecDepth 100000 in
theorem serve_any {w : World} {B M tb ab gb : Nat} {s t : UInt8} {pred : Option UInt8} {succ : UInt8} {fl ns : List UInt8} (h : Ready w B M s pred succ fl ns) (hb : IsBlk w tb (idv t) 24) (ha : IsBlk w ab #[.func (.func 12) #[] #[.pointer (some ⟨tb, 0, none⟩)]] 96) (hg : IsBlk w gb #[.slice none 0 0, .bool false] 92) (hM : M ≠ gb) (cx : Value) :
    Calls Ybaz.prog 15 #[cx, .pointer (some ⟨M, 0, none⟩), .pointer (some ⟨ab, 0, none⟩), .pointer (some ⟨gb, 0, none⟩)] w fun e w' => e = .returned .nilIface ∧ ∃ v, IsBlk w' gb #[v, .bool (stepB s pred succ t)] 92 ∧ Row w' v (stepL s pred succ t fl ns) ∧ (∀ b, v.ownBlock = some b → w.heap.size ≤ b) ∧ Turn (fun k => k = M ∨ k = gb) w w' := by
  have k12 := answer_any h hb cx
  have c1 := ha.cell 0
  simp at c1
  have HG : Aside (IsBlk w gb #[.slice none 0 0, .bool false] 92) := hg
  have HM : Aside (M ≠ gb ∧ gb < w.heap.size) := ⟨hM, hg.lt⟩
  clear h hb ha hg hM
  go_enter Ybaz.func15, Ybaz.ntmps15
  go_wp2_with fail
  refine k12.mono ?_
  rintro e w1 ⟨v, rfl, hrow, hfr, htu⟩
  clear k12 c1
  obtain ⟨va, vn, vc, rfl⟩ := hrow.slice
  have B1 : Aside (IsBlk w1 gb #[.slice none 0 0, .bool false] 92) := HG.out.turn htu (fun e => HM.out.1 e.symm)
  have c0 := B1.out.cell 0
  have c1 := B1.out.cell 1
  have f0 := B1.out.frozen 0
  have f1 := B1.out.frozen 1
  simp at c0 c1
  have HR : Aside (Row w1 (.slice va vn vc) (stepL s pred succ t fl ns)) := hrow
  have HF : Aside (∀ b, (Value.slice va vn vc).ownBlock = some b → w.heap.size ≤ b) := hfr
  clear hrow hfr
  go_wp2_with fail
  go_ret
  have B2 := B1.out.set2 (u := .slice va vn vc) (v := .bool (stepB s pred succ t))
  have T2 := turn_set2 w1 gb (.slice va vn vc) (.bool (stepB s pred succ t))
  refine ⟨rfl, _, B2, HR.out.turn T2 (fun b e => by have := HF.out b e; have := HM.out; omega), HF.out, (htu.mono (fun _ _ e => .inl e)).then T2 (fun i hi e => .inr e)⟩
end
end Go.Proofs.YbulkdevoGreat
