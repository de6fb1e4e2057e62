import Derived.Test.YbulkdetyC7
import Derived.Deep.RegionLaw
namespace Go.Proofs.Ybulkdety
open Go.RowKit Go.Lib
set_option linter.unusedVariables false

/-- An append onto a row of the call's own, as one step of a region that draws its order. -/
theorem step_append_own {P : Program} {ops : Array Oper} {o : Oper} {a : Act} {w : World} {K : Act → World → Prop} {Q : Exit → Act → World → Prop} {E : Prop}
    (hg : o.guard = none) (s x : Operand) (t : TypeId) (hop : o.op = Op.call { callee := Callee.builtin Builtin.append, args := #[s, x], argTypes := #[t, t] })
    (base : Nat) (e : TypeId) (i : TypeInfo) (z : Value) (size bytes : Nat) (h1 : P.underlying t = some (.slice e)) (h2 : P.info? e = some i) (h3 : i.zero = some z) (h4 : i.size = size) (h5 : i.bytes = bytes) (h6 : z.cells.size = size) (h7 : 0 < size)
    (v : Value) (n : Nat) (xs : List Value) (hs : a.eval s = v) (hown : w.ownsRow base e size v n xs)
    (ad : Addr) (m c : Nat) (news : List Value) (hx : a.eval x = .slice (some ad) m c) (hn : news.length = m * size) (hc : ∀ j u, news[j]? = some u → w.cell? (ad.add j) = some u) (h1c : ∀ u ∈ news, u.oneCell' = true)
    (b1 : n + m ≤ maxLen) (b2 : (n + m) * bytes ≤ 140737488355328) (b3 : base ≤ w.heap.size)
    (hK : ∀ v' w', w'.ownsRow base e size v' (n + m) (xs ++ news) → w.grownBy w' v.ownBlock → K (a.put o.dst v') w') :
    if Region.wanted o (yielded ops a.tmps) = true then Oper.wp P o a w K Q else E := by
  have hw : Region.wanted o (yielded ops a.tmps) = true := by simp [Region.wanted, hg]
  rw [if_pos hw]
  obtain ⟨v', w', hrun, r1, r2, _⟩ := run_append_own (P := P) w base t o.type e i z size bytes h1 h2 h3 h4 h5 h6 h7 v n xs hown ad m c news hn hc h1c b1 b2 b3
  unfold Oper.wp
  simp [execOp, hop, resolve, invoke, builtin, hs, hx, hrun, Result.andThen]
  exact hK v' w' r1 r2

theorem owns_succ {W : World} {base : Nat} {e : TypeId} {size : Nat} {v : Value} {k : Nat} {xs : List Value} (h : W.ownsRow base e size v (k + 1) xs) : ∃ g cap, v = .slice (some ⟨g, 0, none⟩) (k + 1) cap := by
  rcases h.2 with ⟨_, h0⟩ | ⟨g, cap, _, rfl, _⟩
  · omega
  · exact ⟨g, cap, rfl⟩

theorem info51 : (Yba.prog.info? 51).map (fun i => (i.zero, i.size, i.bytes)) = some (some (.slice none 0 0), 1, 24) := by kernel_rfl

/-- The single new buckets. -/
def Singles (B : Nat) (w : World) (sv : Value) (zl : List Nat) : Prop := w.ownsRow B 51 1 sv zl.length (zl.map fun z => Value.slice (some ⟨z, 0, none⟩) 1 1)

theorem mk51 (w : World) : (Instr.makeSlice 51 (.int .i64 1) (.int .i64 1)).run Yba.prog w = .ok (.slice (some ⟨w.heap.size, 0, none⟩) 1 1) (w.alloc (.cells bzero 50)) := by kernel_rfl

/-- The world ahead of the append: a new bucket, and the row of one that is appended. -/
theorem single_world (w : World) (B X : Nat) (sv vv : Value) (zl : List Nat) (hX : IsBlk w X #[sv, vv] 57) (hS : Singles B w sv zl) (w1 : World) (v1 : Value)
    (hgr : (((w.alloc (.cells bzero 50)).alloc (.cells #[.slice (some ⟨w.heap.size, 0, none⟩) 1 1] 51)).drew).grownBy w1 sv.ownBlock)
    (hown : w1.ownsRow B 51 1 v1 (zl.length + 1) (zl.map (fun z => Value.slice (some ⟨z, 0, none⟩) 1 1) ++ [.slice (some ⟨w.heap.size, 0, none⟩) 1 1])) :
    IsBlk w1 X #[sv, vv] 57 ∧ ∃ sv' z, w.heap.size ≤ z ∧ IsBlk (w1.setCell ⟨X, 0, none⟩ v1) X #[sv', vv] 57 ∧ Singles B (w1.setCell ⟨X, 0, none⟩ v1) sv' (zl ++ [z]) ∧ IsBlk (w1.setCell ⟨X, 0, none⟩ v1) z bzero 50 ∧ Turn (fun k => k = X ∨ sv.ownBlock = some k) w (w1.setCell ⟨X, 0, none⟩ v1) := by
  have t1 : Turn (fun k => k = X ∨ sv.ownBlock = some k) w w1 := (((Turn.refl _ _).alloc _).alloc _).drew.grown hgr (fun k hk => Or.inl (Or.inr hk))
  have t0 : Turn (fun k => sv.ownBlock = some k) w w1 := (((Turn.refl _ _).alloc _).alloc _).drew.grown hgr (fun k hk => Or.inl hk)
  have hX1 : IsBlk w1 X #[sv, vv] 57 := hX.turn t0 (owns_ne hS hX (by decide))
  refine ⟨hX1, v1, w.heap.size, Nat.le_refl _, hX1.set 0 v1, ?_, ?_, ?_⟩
  · have h := owns_turn hown (Turn.set1 w1 X 0 v1) (fun b hb e => owns_ne hown hX1 (by decide) (by rw [hb, e]))
    unfold Singles
    simpa using h
  · have b0 : IsBlk (((w.alloc (.cells bzero 50)).alloc (.cells #[.slice (some ⟨w.heap.size, 0, none⟩) 1 1] 51)).drew) w.heap.size bzero 50 :=
      ((IsBlk.new w bzero 50).turn ((Turn.refl (fun _ => False) _).alloc _) (by simp)).same rfl
    have b1 : IsBlk w1 w.heap.size bzero 50 := by
      refine b0.same (hgr.block _ b0.lt ?_)
      intro e
      rcases hS.2 with ⟨rfl, _⟩ | ⟨g, c1, cur, rfl, _, hg, _⟩
      · simp [Value.ownBlock] at e
      · simp [Value.ownBlock] at e
        have := (Array.getElem?_eq_some_iff.1 hg).1
        omega
    exact b1.turn (Turn.set1 w1 X 0 v1) (by have := hX.lt; omega)
  · exact t1.setCell (p := ⟨X, 0, none⟩) (Or.inl (Or.inl rfl)) _

set_option maxHeartbeats 1000000 in
set_option maxRecDepth 100000 in
theorem makeExtra_single (B A S n cap c X e : Nat) (sg sv vv : Value) (sh : Int) (zl : List Nat) (w : World) (hB : B ≤ w.heap.size)
    (hA : IsBlk w A (hdr S n cap sg sh c (.pointer (some ⟨X, 0, none⟩))) 37) (hX : IsBlk w X #[sv, vv] 57) (hS : Singles B w sv zl) (he : e = zl.length) (he16 : e < 16) :
    Calls Yba.prog 16 #[.pointer (some ⟨A, 0, none⟩), .int .i64 e] w fun e w' => e = .returned (.tuple #[]) ∧ ∃ sv' z, w.heap.size ≤ z ∧ IsBlk w' X #[sv', vv] 57 ∧ Singles B w' sv' (zl ++ [z]) ∧ IsBlk w' z bzero 50 ∧ Turn (fun k => k = X ∨ sv.ownBlock = some k) w w' := by
  have a6 : w.cell? ⟨A, 6, none⟩ = some (.pointer (some ⟨X, 0, none⟩)) := (hA.cell 6).trans rfl
  have x0 : w.cell? ⟨X, 0, none⟩ = some sv := (hX.cell 0).trans rfl
  have hXlt := hX.lt
  obtain ⟨i0, hi, hz0, hz1, hz2⟩ := info_parts info51
  have hmk := mk51
  have HZ : Hid (e = zl.length) := he
  have hzl : zl.length < 16 := by omega
  have HO : Hid ((((w.alloc (.cells bzero 50)).alloc (.cells #[.slice (some ⟨w.heap.size, 0, none⟩) 1 1] 51)).drew).ownsRow B 51 1 sv zl.length (zl.map fun z => Value.slice (some ⟨z, 0, none⟩) 1 1)) := ((hS.alloc _).alloc _).drew
  have HN : ∀ (j : Nat) (u : Value), [Value.slice (some ⟨w.heap.size, 0, none⟩) 1 1][j]? = some u → (((w.alloc (.cells bzero 50)).alloc (.cells #[.slice (some ⟨w.heap.size, 0, none⟩) 1 1] 51)).drew).cell? ((⟨w.heap.size + 1, 0, none⟩ : Addr).add j) = some u := by
    have := cell_one_new (w.alloc (.cells bzero 50)) (.slice (some ⟨w.heap.size, 0, none⟩) 1 1) 51
    simpa using this
  have HN' : Hid (∀ (j : Nat) (u : Value), [Value.slice (some ⟨w.heap.size, 0, none⟩) 1 1][j]? = some u → (((w.alloc (.cells bzero 50)).alloc (.cells #[.slice (some ⟨w.heap.size, 0, none⟩) 1 1] 51)).drew).cell? ((⟨w.heap.size + 1, 0, none⟩ : Addr).add j) = some u) := HN
  have HN1 : ∀ u ∈ [Value.slice (some ⟨w.heap.size, 0, none⟩) 1 1], u.oneCell' = true := by simp [Value.oneCell']
  have HL1 : zl.length + 1 ≤ maxLen := by unfold maxLen; omega
  have HL2 : (zl.length + 1) * 24 ≤ 140737488355328 := by omega
  have HBB : B ≤ (((w.alloc (.cells bzero 50)).alloc (.cells #[.slice (some ⟨w.heap.size, 0, none⟩) 1 1] 51)).drew).heap.size := by simp; omega
  have HW := single_world w B X sv vv zl hX hS
  have HW' : Hid (∀ (w1 : World) (v1 : Value), (((w.alloc (.cells bzero 50)).alloc (.cells #[.slice (some ⟨w.heap.size, 0, none⟩) 1 1] 51)).drew).grownBy w1 sv.ownBlock → w1.ownsRow B 51 1 v1 (zl.length + 1) (zl.map (fun z => Value.slice (some ⟨z, 0, none⟩) 1 1) ++ [.slice (some ⟨w.heap.size, 0, none⟩) 1 1]) →
    IsBlk w1 X #[sv, vv] 57 ∧ ∃ sv' z, w.heap.size ≤ z ∧ IsBlk (w1.setCell ⟨X, 0, none⟩ v1) X #[sv', vv] 57 ∧ Singles B (w1.setCell ⟨X, 0, none⟩ v1) sv' (zl ++ [z]) ∧ IsBlk (w1.setCell ⟨X, 0, none⟩ v1) z bzero 50 ∧ Turn (fun k => k = X ∨ sv.ownBlock = some k) w (w1.setCell ⟨X, 0, none⟩ v1)) := HW
  clear he hX hA HW HN
  go_enter Yba.func16, Yba.ntmps16
  go_wp2_with fail
  go_region_law (refine step_append_own rfl _ _ 26 rfl B 51 i0 _ 1 24 Yba.underlying26 hi hz0 hz1 hz2 rfl (by decide) sv zl.length _ rfl HO.out ⟨w.heap.size + 1, 0, none⟩ 1 1 [.slice (some ⟨w.heap.size, 0, none⟩) 1 1] rfl rfl HN'.out HN1 HL1 HL2 HBB ?_; intro v1 w1 hown1 hgr1; obtain ⟨g1, cap1, rfl⟩ := owns_succ hown1; obtain ⟨hX1, HE⟩ := HW'.out w1 _ hgr1 hown1; have x01 := hX1.cell 0; have xf1 := hX1.frozen 0; simp only [List.getElem?_toArray, List.getElem?_cons_zero] at x01)
  all_goals
    clear hX1 x01 xf1 hgr1 hown1
    go_wp2_with fail
    go_end0
    exact ⟨rfl, HE⟩

set_option maxHeartbeats 1000000 in
set_option maxRecDepth 100000 in
theorem makeExtra_first (B A S n cap c : Nat) (sg : Value) (sh : Int) (w : World) (hB : B ≤ w.heap.size)
    (hA : IsBlk w A (hdr S n cap sg sh c (.pointer none)) 37) :
    Calls Yba.prog 16 #[.pointer (some ⟨A, 0, none⟩), .int .i64 0] w fun e w' => e = .returned (.tuple #[]) ∧ ∃ X sv' z, w.heap.size ≤ X ∧ w.heap.size ≤ z ∧ IsBlk w' A (hdr S n cap sg sh c (.pointer (some ⟨X, 0, none⟩))) 37 ∧ IsBlk w' X #[sv', .slice none 0 0] 57 ∧ Singles B w' sv' ([] ++ [z]) ∧ IsBlk w' z bzero 50 ∧ Turn (fun k => k = A) w w' := by
  have a6 : w.cell? ⟨A, 6, none⟩ = some (.pointer none) := (hA.cell 6).trans rfl
  have af := hA.frozen 6
  have hAlt := hA.lt
  have hAlt1 : A < w.heap.size + 1 := by omega
  obtain ⟨i0, hi, hz0, hz1, hz2⟩ := info_parts info51
  have hmk := mk51
  go_enter Yba.func16, Yba.ntmps16
  go_wp2_with fail
  have hTw : Turn (fun k => k = A) w ((w.setCell ⟨A, 6, none⟩ (.pointer (some ⟨w.heap.size, 0, none⟩))).alloc (.cells #[.slice none 0 0, .slice none 0 0] 57)) := (Turn.set1 _ _ _ _).alloc _
  have hAw : IsBlk ((w.setCell ⟨A, 6, none⟩ (.pointer (some ⟨w.heap.size, 0, none⟩))).alloc (.cells #[.slice none 0 0, .slice none 0 0] 57)) A (hdr S n cap sg sh c (.pointer (some ⟨w.heap.size, 0, none⟩))) 37 := (hA.set 6 _).turn ((Turn.refl (fun _ => False) _).alloc _) (by simp)
  have hXw : IsBlk ((w.setCell ⟨A, 6, none⟩ (.pointer (some ⟨w.heap.size, 0, none⟩))).alloc (.cells #[.slice none 0 0, .slice none 0 0] 57)) w.heap.size #[.slice none 0 0, .slice none 0 0] 57 := by
    have h := IsBlk.new (w.setCell ⟨A, 6, none⟩ (.pointer (some ⟨w.heap.size, 0, none⟩))) #[.slice none 0 0, .slice none 0 0] 57
    have e : (w.setCell ⟨A, 6, none⟩ (.pointer (some ⟨w.heap.size, 0, none⟩))).heap.size = w.heap.size := by simp [World.setCell]
    rw [e] at h
    exact h
  have hzw : ((w.setCell ⟨A, 6, none⟩ (.pointer (some ⟨w.heap.size, 0, none⟩))).alloc (.cells #[.slice none 0 0, .slice none 0 0] 57)).heap.size = w.heap.size + 1 := by simp [World.setCell]
  generalize (w.setCell ⟨A, 6, none⟩ (.pointer (some ⟨w.heap.size, 0, none⟩))).alloc (.cells #[.slice none 0 0, .slice none 0 0] 57) = W at *
  have hS : Singles B W (.slice none 0 0) [] := World.ownsRow_nil _ _ _ _
  have x0 : W.cell? ⟨w.heap.size, 0, none⟩ = some (.slice none 0 0) := (hXw.cell 0).trans rfl
  have HO : Hid ((((W.alloc (.cells bzero 50)).alloc (.cells #[.slice (some ⟨W.heap.size, 0, none⟩) 1 1] 51)).drew).ownsRow B 51 1 (.slice none 0 0) 0 []) := World.ownsRow_nil _ _ _ _
  have HN' : Hid (∀ (j : Nat) (u : Value), [Value.slice (some ⟨W.heap.size, 0, none⟩) 1 1][j]? = some u → (((W.alloc (.cells bzero 50)).alloc (.cells #[.slice (some ⟨W.heap.size, 0, none⟩) 1 1] 51)).drew).cell? ((⟨W.heap.size + 1, 0, none⟩ : Addr).add j) = some u) := by
    have := cell_one_new (W.alloc (.cells bzero 50)) (.slice (some ⟨W.heap.size, 0, none⟩) 1 1) 51
    have e : (W.alloc (.cells bzero 50)).heap.size = W.heap.size + 1 := by simp
    rw [e] at this
    exact this
  have HN1 : ∀ u ∈ [Value.slice (some ⟨W.heap.size, 0, none⟩) 1 1], u.oneCell' = true := by simp [Value.oneCell']
  have HL1 : 0 + 1 ≤ maxLen := by unfold maxLen; omega
  have HBB : B ≤ (((W.alloc (.cells bzero 50)).alloc (.cells #[.slice (some ⟨W.heap.size, 0, none⟩) 1 1] 51)).drew).heap.size := by simp; omega
  have HW := single_world W B w.heap.size (.slice none 0 0) (.slice none 0 0) [] hXw hS
  have HW' : Hid (∀ (w1 : World) (v1 : Value), (((W.alloc (.cells bzero 50)).alloc (.cells #[.slice (some ⟨W.heap.size, 0, none⟩) 1 1] 51)).drew).grownBy w1 none → w1.ownsRow B 51 1 v1 (0 + 1) ([] ++ [.slice (some ⟨W.heap.size, 0, none⟩) 1 1]) →
    IsBlk w1 w.heap.size #[.slice none 0 0, .slice none 0 0] 57 ∧ ∃ X sv' z, w.heap.size ≤ X ∧ w.heap.size ≤ z ∧ IsBlk (w1.setCell ⟨w.heap.size, 0, none⟩ v1) A (hdr S n cap sg sh c (.pointer (some ⟨X, 0, none⟩))) 37 ∧ IsBlk (w1.setCell ⟨w.heap.size, 0, none⟩ v1) X #[sv', .slice none 0 0] 57 ∧ Singles B (w1.setCell ⟨w.heap.size, 0, none⟩ v1) sv' ([] ++ [z]) ∧ IsBlk (w1.setCell ⟨w.heap.size, 0, none⟩ v1) z bzero 50 ∧ Turn (fun k => k = A) w (w1.setCell ⟨w.heap.size, 0, none⟩ v1)) := by
    intro w1 v1 h1 h2
    obtain ⟨e1, sv', z, e2, e3, e4, e5, e6⟩ := HW w1 v1 h1 h2
    refine ⟨e1, w.heap.size, sv', z, Nat.le_refl _, by omega, ?_, e3, e4, e5, ?_⟩
    · exact hAw.turn e6 (by simp [Value.ownBlock]; omega)
    · refine hTw.then e6 (fun k hk h => ?_)
      rcases h with h | h
      · omega
      · simp [Value.ownBlock] at h
  have hltw : w.heap.size < W.heap.size := by omega
  clear hA HW a6 af hAw hTw hXw hS hzw
  go_wp2_with fail
  go_region_law (refine step_append_own rfl _ _ 26 rfl B 51 i0 _ 1 24 Yba.underlying26 hi hz0 hz1 hz2 rfl (by decide) (.slice none 0 0) 0 _ rfl HO.out ⟨W.heap.size + 1, 0, none⟩ 1 1 [.slice (some ⟨W.heap.size, 0, none⟩) 1 1] rfl rfl HN'.out HN1 HL1 (by decide) HBB ?_; intro v1 w1 hown1 hgr1; obtain ⟨g1, cap1, rfl⟩ := owns_succ hown1; obtain ⟨hX1, HE⟩ := HW'.out w1 _ hgr1 hown1; have x01 := hX1.cell 0; have xf1 := hX1.frozen 0; simp only [List.getElem?_toArray, List.getElem?_cons_zero] at x01)
  all_goals
    clear hX1 x01 xf1 hgr1 hown1
    go_wp2_with fail
    go_end0
    exact ⟨rfl, HE⟩
end Go.Proofs.Ybulkdety
