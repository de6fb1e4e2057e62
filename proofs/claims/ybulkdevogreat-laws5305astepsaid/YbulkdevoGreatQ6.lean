/- Rows of peers; slices.Index and slices.Contains over them. -/
import Derived.Test.YbulkdevoGreatQ5
import Derived.Deep.LoopGhost
namespace Go.Proofs.YbulkdevoGreat
open Go.RowKit Go.Sort
set_option linter.unusedVariables false
set_option linter.unusedSimpArgs false

theorem fill29 (p : Option UInt8) : Instr.fill (fun i => some (i * 21, 21)) ((Array.range (1 * 21)).map (pz[· % pz.size]!)) [(0, .agg (pv p))] = some (pv p) := by
  cases p with
  | none => kernel_rfl
  | some b => kernel_rfl
theorem zero26 (w : World) : (zeroValue 26).run Ybaz.prog w = .ok (.agg pz) w := Ybaz.zeroValue26 w
def Bs (t : TypeId) (n : Nat) (ps : Array (Nat × Value)) : Sem Value := Instr.buildSlice t n ps
theorem fold_bs29 (n : Nat) (ps : Array (Nat × Value)) : Instr.buildSlice 29 n ps = Bs 29 n ps := rfl
/-- '[]Peer{p}': a row of one. -/
theorem bs29 (p : Option UInt8) (w : World) : (Bs 29 1 #[(0, .agg (pv p))]).run Ybaz.prog w = .ok (.slice (some ⟨w.heap.size, 0, none⟩) 1 1) (w.alloc (.cells (pv p) 26)) := by
  unfold Bs Instr.buildSlice
  rw [Sem.run_bind, Ybaz.runUnderlying29]
  simp only [Result.andThen_ok, Sem.run_bind, Ybaz.sizeOf26]
  rw [if_neg (by decide), if_neg (by decide), Sem.run_bind, zero26]
  simp only [Result.andThen_ok, Sem.run_bind, Sem.run_pure, Value.cells, fill29, newRow, run_newObj]
  rfl

/-- The cells of a row of peers. -/
def flat (ks : List UInt8) : List Value := ks.flatMap fun x => (pv (some x)).toList
theorem flat_length (ks : List UInt8) : (flat ks).length = ks.length * 21 := by
  induction ks with
  | nil => rfl
  | cons x r ih => simp only [flat, List.flatMap_cons, List.length_append] at ih ⊢; rw [ih]; simp [pv_size]; omega
theorem flat_snoc (ks : List UInt8) (x : UInt8) : flat (ks ++ [x]) = flat ks ++ (pv (some x)).toList := by simp [flat]
theorem flat_get : ∀ (ks : List UInt8) (i : Nat) (x : UInt8), ks[i]? = some x → ∀ j v, (pv (some x)).toList[j]? = some v → (flat ks)[i * 21 + j]? = some v
  | [], i, x, h, _, _, _ => by simp at h
  | y :: r, 0, x, h, j, v, hv => by
    simp at h
    subst h
    have hj := (List.getElem?_eq_some_iff.1 hv).1
    rw [flat, List.flatMap_cons, Nat.zero_mul, Nat.zero_add, List.getElem?_append_left hj]
    exact hv
  | y :: r, i + 1, x, h, j, v, hv => by
    have ih := flat_get r i x (by simpa using h) j v hv
    rw [flat, List.flatMap_cons, List.getElem?_append_right (by simp [pv_size]; omega)]
    simp only [Array.length_toList, pv_size]
    rw [show (i + 1) * 21 + j - 21 = i * 21 + j by omega]
    exact ih
theorem flat_one (ks : List UInt8) : ∀ u ∈ flat ks, u.oneCell' = true := fun u hu => by
  simp only [flat, List.mem_flatMap] at hu
  obtain ⟨x, _, hx⟩ := hu
  exact (Array.all_eq_true_iff_forall_mem.1 (pv_one (some x))) u (by simpa using hx)

/-- The peers ks lie in block g from offset o on. -/
def Lies (w : World) (g o : Nat) (ks : List UInt8) : Prop := ∀ i x, ks[i]? = some x → w.rangeAt g (o + i * 21) (pv (some x)).toList
theorem Lies.same {w w' : World} {g o : Nat} {ks : List UInt8} (h : Lies w g o ks) (e : w'.heap[g]? = w.heap[g]?) : Lies w' g o ks := fun i x hx => rangeAt_same (h i x hx) e
theorem Lies.grn {w w' : World} {g o : Nat} {ks : List UInt8} (h : Lies w g o ks) (hg : g < w.heap.size) (k : Grn w w') : Lies w' g o ks := h.same (k.block hg)
theorem lies_of_flat {w : World} {g o : Nat} {ks : List UInt8} (h : w.rangeAt g o (flat ks)) : Lies w g o ks := fun i x hx j v hv => by
  have := h (i * 21 + j) v (flat_get ks i x hx j v hv)
  rwa [← Nat.add_assoc] at this

/-- The slice v owns the row ks. -/
def Own (w : World) (base : Nat) (v : Value) (ks : List UInt8) : Prop := w.ownsRow base 26 21 v ks.length (flat ks)

theorem Own.open {w : World} {base : Nat} {v : Value} {ks : List UInt8} (h : Own w base v ks) : (v = .slice none 0 0 ∧ ks = []) ∨ ∃ g cap, v = .slice (some ⟨g, 0, none⟩) ks.length cap ∧ base ≤ g ∧ g < w.heap.size ∧ ks.length ≤ cap ∧ w.rangeAt g 0 (flat ks) ∧ w.there g 0 (ks.length * 21) := by
  rcases h.2 with ⟨h1, h2⟩ | ⟨g, cap, cur, rfl, hb, hg, hc, hm, hs, ht⟩
  · exact .inl ⟨h1, List.length_eq_zero_iff.1 h2⟩
  · refine .inr ⟨g, cap, rfl, hb, (Array.getElem?_eq_some_iff.1 hg).1, hc, fun j v hv => ?_, fun j hj => ?_⟩
    · have hj := (List.getElem?_eq_some_iff.1 hv).1
      rw [flat_length] at hj
      rw [← ht, List.getElem?_take_of_lt hj] at hv
      rw [Nat.zero_add, cell_of_row _ _ _ _ _ _ hg]
      simpa using hv
    · have hlt : j < cur.size := by rw [hs]; exact Nat.lt_of_lt_of_le hj (Nat.mul_le_mul_right 21 hc)
      rw [Nat.zero_add, cell_of_row _ _ _ _ _ _ hg]
      exact ⟨by simp [hlt], frozen_of_row _ _ _ _ _ hg⟩

/-- Where x stands in ks, -1 where it does not. -/
def idxI : List UInt8 → UInt8 → Int
  | [], _ => -1
  | y :: r, x => if x = y then 0 else if idxI r x < 0 then -1 else idxI r x + 1
theorem idxI_miss : ∀ (ks : List UInt8) (x : UInt8), (∀ j, j < ks.length → x ≠ ks.getD j 0) → idxI ks x = -1
  | [], _, _ => rfl
  | y :: r, x, h => by
    have h0 : x ≠ y := h 0 (by simp)
    have ih := idxI_miss r x (fun j hj => by have := h (j + 1) (by simpa using hj); simpa using this)
    rw [idxI, if_neg h0, ih]; rfl
theorem idxI_hit : ∀ (ks : List UInt8) (x : UInt8) (k : Nat), k < ks.length → x = ks.getD k 0 → (∀ j, j < k → x ≠ ks.getD j 0) → idxI ks x = k
  | [], _, k, hk, _, _ => by simp at hk
  | y :: r, x, 0, _, he, _ => by
    have : x = y := by simpa using he
    rw [idxI, if_pos this]; rfl
  | y :: r, x, k + 1, hk, he, h => by
    have h0 : x ≠ y := h 0 (by omega)
    have ih := idxI_hit r x k (by simpa using hk) (by simpa using he) (fun j hj => by have := h (j + 1) (by omega); simpa using this)
    rw [idxI, if_neg h0, ih, if_neg (by omega)]
    simp
theorem idxI_ge : ∀ (ks : List UInt8) (x : UInt8), decide (0 ≤ idxI ks x) = ks.contains x
  | [], x => by simp [idxI]
  | y :: r, x => by
    have ih := idxI_ge r x
    rw [idxI, List.contains_cons]
    by_cases h : x = y
    · rw [if_pos h]; simp [h]
    · rw [if_neg h]
      rw [show (x == y) = false by simpa using h, Bool.false_or, ← ih]
      by_cases h2 : idxI r x < 0
      · rw [if_pos h2]; simp; omega
      · rw [if_neg h2]; simp; omega

section
attribute [local go_sem ↓] fold_ld24 fold_st24 fold_ld26 fold_st26 fold_bd24 fold_bd26
set_option maxRecDepth 100000 in
theorem index_nil (a : Option Addr) (c : Nat) (x : UInt8) (w : World) :
    Calls Ybaz.prog 42 #[.slice a 0 c, .agg (pv (some x))] w fun e w' => e = .returned (.int .i64 (-1)) ∧ Grn w w' := by
  have hG : Grn w (w.alloc (.cells (pv (some x)) 26)) := (Grn.refl w).alloc _
  generalize hw0 : w.alloc (.cells (pv (some x)) 26) = w0 at hG
  go_enter Ybaz.func42, Ybaz.ntmps42
  go_wp2_with fail
  refine wp_loop_rounds 1 ?_
  rw [rounds_succ]
  go_wp2_with fail
  go_ret
  exact ⟨rfl, hG⟩

set_option maxHeartbeats 2000000 in
set_option maxRecDepth 100000 in
theorem index_row {w : World} {g o : Nat} {ks : List UInt8} (h : Lies w g o ks) (hg : g < w.heap.size) (c : Nat) (x : UInt8) (hm : ks.length ≤ maxLen) :
    Calls Ybaz.prog 42 #[.slice (some ⟨g, o, none⟩) ks.length c, .agg (pv (some x))] w fun e w' => e = .returned (.int .i64 (idxI ks x)) ∧ Grn w w' := by
  have hG : Grn w (w.alloc (.cells (pv (some x)) 26)) := (Grn.refl w).alloc _
  have h0 : IsBlk (w.alloc (.cells (pv (some x)) 26)) w.heap.size (pv (some x)) 26 := IsBlk.new w _ _
  generalize hw0 : w.alloc (.cells (pv (some x)) 26) = w0 at hG h0
  obtain ⟨n, hn⟩ : ∃ n, n = ks.length := ⟨_, rfl⟩
  have hm' : n ≤ maxLen := hn ▸ hm
  have hm2 : n ≤ 9223372036854775807 := by simp only [maxLen] at hm'; omega
  have A0 : Aside (∀ i, i < n → w0.rangeAt g (o + i * 21) (pv (some (ks.getD i 0))).toList) := fun i hi => (h.grn hg hG) i _ (by rw [hn] at hi; simp [List.getD, hi])
  have B0 : Aside (IsBlk w0 w.heap.size (pv (some x)) 26) := h0
  have N0 : Aside (n = ks.length) := hn
  have G0 : Aside (g < w0.heap.size) := Nat.lt_of_lt_of_le hg hG.grew.size
  rw [← hn]
  clear h0 h hn hm hm' hg
  go_enter Ybaz.func42, Ybaz.ntmps42
  go_wp2_with fail
  clear hw0
  go_loopg [5, 8] n (fun gg _ s8 wr => ∃ kk : Nat, kk ≤ n ∧ n - kk ≤ gg ∧ s8 = .int .i64 kk ∧ Grn w0 wr ∧ Aside (∀ j, j < kk → x ≠ ks.getD j 0))
  case atStart => exact ⟨0, Nat.zero_le _, by omega, rfl, Grn.refl _, fun j hj => absurd hj (Nat.not_lt_zero _)⟩
  case round =>
    obtain ⟨kk, hkk, hg, rfl, gr, A⟩ := hrel
    by_cases hlt : kk < n
    · have hltz : (kk : Int) < (n : Int) := by omega
      have l1 : ∀ m, (Ld 26 ⟨w.heap.size, 0, none⟩).run Ybaz.prog (wr.drewN m) = .ok (.agg (pv (some x))) (wr.drewN m) := fun m => run_Ld26 (B0.out.grn (gr.drewN m)).range (pv_size _)
      have l2 : ∀ m, (Ld 26 ⟨g, o + kk * 21, none⟩).run Ybaz.prog (wr.drewN m) = .ok (.agg (pv (some (ks.getD kk 0)))) (wr.drewN m) := fun m => run_Ld26 ((gr.drewN m).rangeAt G0.out (A0.out kk hlt)) (pv_size _)
      have he := eql_peer (some x) (some (ks.getD kk 0))
      have B : Aside (decide (some x = some (ks.getD kk 0)) = decide (x = ks.getD kk 0)) := by show decide _ = _; simp
      generalize hq : decide (some x = some (ks.getD kk 0)) = q at he B
      have Q : Aside (decide (x = ks.getD kk 0) = q) := B.out.symm
      clear hq B
      generalize pv (some (ks.getD kk 0)) = py at l2 he
      cases q with
      | true =>
        go_wp2_with fail
        go_quiet (fail)
        go_wp2_with fail
        go_ret
        refine ⟨?_, hG.trans (gr.drewN _)⟩
        rw [idxI_hit ks x kk (N0.out ▸ hlt) (by simpa using Q.out) A.out]
        rfl
      | false =>
        go_wp2_with fail
        go_quiet (fail)
        go_wp2_with fail
        go_roundg (n - (kk + 1))
        case measure => omega
        case rel =>
          refine ⟨kk + 1, by omega, by omega, by go_num, gr.drewN _, (show Aside _ from fun j hj => ?_)⟩
          by_cases e : j = kk
          · subst e; simpa using Q.out
          · exact A.out j (by omega)
    · have hltz : ¬ (kk : Int) < (n : Int) := by omega
      have hkn : kk = n := by omega
      go_wp2_with fail
      go_ret
      refine ⟨?_, hG.trans gr⟩
      rw [idxI_miss ks x (by rw [← N0.out, ← hkn]; exact A.out)]
      rfl

/-- The slice v shows the peers ks. -/
def Row (w : World) (v : Value) (ks : List UInt8) : Prop :=
  (∃ a c, v = .slice a 0 c ∧ ks = []) ∨ ∃ g o c, v = .slice (some ⟨g, o, none⟩) ks.length c ∧ g < w.heap.size ∧ Lies w g o ks
theorem Row.grn {w w' : World} {v : Value} {ks : List UInt8} (h : Row w v ks) (k : Grn w w') : Row w' v ks := by
  rcases h with h | ⟨g, o, c, hv, hg, hl⟩
  · exact .inl h
  · exact .inr ⟨g, o, c, hv, Nat.lt_of_lt_of_le hg k.grew.size, hl.grn hg k⟩
theorem Own.row {w : World} {base : Nat} {v : Value} {ks : List UInt8} (h : Own w base v ks) : Row w v ks := by
  rcases h.open with ⟨rfl, rfl⟩ | ⟨g, cap, rfl, hb, hg, hc, hr, _⟩
  · exact .inl ⟨none, 0, rfl, rfl⟩
  · exact .inr ⟨g, 0, cap, rfl, hg, lies_of_flat hr⟩

theorem index_any {w : World} {v : Value} {ks : List UInt8} (h : Row w v ks) (x : UInt8) (hm : ks.length ≤ maxLen) :
    Calls Ybaz.prog 42 #[v, .agg (pv (some x))] w fun e w' => e = .returned (.int .i64 (idxI ks x)) ∧ Grn w w' := by
  rcases h with ⟨a, c, rfl, rfl⟩ | ⟨g, o, c, rfl, hg, hl⟩
  · exact index_nil a c x w
  · exact index_row hl hg c x hm

set_option maxRecDepth 100000 in
theorem contains_any {w : World} {v : Value} {ks : List UInt8} (h : Row w v ks) (x : UInt8) (hm : ks.length ≤ maxLen) :
    Calls Ybaz.prog 27 #[v, .agg (pv (some x))] w fun e w' => e = .returned (.bool (ks.contains x)) ∧ Grn w w' := by
  have hG : Grn w (w.alloc (.cells (pv (some x)) 26)) := (Grn.refl w).alloc _
  have h0 : IsBlk (w.alloc (.cells (pv (some x)) 26)) w.heap.size (pv (some x)) 26 := IsBlk.new w _ _
  generalize hw0 : w.alloc (.cells (pv (some x)) 26) = w0 at hG h0
  have k1 := index_any (h.grn hG) x hm
  have l1 : (Ld 26 ⟨w.heap.size, 0, none⟩).run Ybaz.prog w0 = .ok (.agg (pv (some x))) w0 := run_Ld26 h0.range (pv_size _)
  have E : Aside (decide (0 ≤ idxI ks x) = ks.contains x) := idxI_ge ks x
  generalize idxI ks x = r at k1 E
  generalize ks.contains x = q at E ⊢
  clear h h0 hm
  go_enter Ybaz.func27, Ybaz.ntmps27
  go_wp2_with fail
  refine k1.mono ?_
  rintro e w1 ⟨rfl, j1⟩
  go_wp2_with fail
  go_ret
  refine ⟨?_, hG.trans j1⟩
  rw [← E.out]
  rfl
end
end Go.Proofs.YbulkdevoGreat
