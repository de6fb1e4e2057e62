/- A grant. -/
import Derived.Test.YbulkdetkGreatDoorB10
import Derived.Deep.RegionLaw
namespace Go.Proofs.YbulkdetkGreatDoor
open Go.RowKit Go.Lib
set_option linter.unusedVariables false
set_option linter.unusedSimpArgs false

/-- An append onto a row of the call's own, as one step of a region that draws its order. -/
theorem step_append_own {P : Program} {ops : Array Oper} {o : Oper} {a : Act} {w : World} {K : Act → World → Prop} {Q : Exit → Act → World → Prop} {E : Prop}
    (hg : o.guard = none) (s x : Operand) (t : TypeId) (hop : o.op = Op.call { callee := Callee.builtin Builtin.append, args := #[s, x], argTypes := #[t, t] })
    (base : Nat) (e : TypeId) (i : TypeInfo) (z : Value) (size bytes : Nat) (h1 : P.underlying t = some (.slice e)) (h2 : P.info? e = some i) (h3 : i.zero = some z) (h4 : i.size = size) (h5 : i.bytes = bytes) (h6 : z.cells.size = size) (h7 : 0 < size)
    (v : Value) (n : Nat) (xs : List Value) (hs : a.eval s = v) (hown : w.ownsRow base e size v n xs)
    (ad : Addr) (m c : Nat) (news : List Value) (hx : a.eval x = .slice (some ad) m c) (hn : news.length = m * size) (hc : ∀ j u, news[j]? = some u → w.cell? (ad.add j) = some u) (h1c : ∀ u ∈ news, u.oneCell' = true)
    (b1 : n + m ≤ maxLen) (b2 : (n + m) * bytes ≤ 140737488355328) (b3 : base ≤ w.heap.size)
    (hK : ∀ v' w', w'.ownsRow base e size v' (n + m) (xs ++ news) → w.grownBy w' v.ownBlock → K (a.put o.dst v') w') :
    if Region.wanted o (yielded ops a.tmps) = true then Oper.wp P o a w K Q else E := by
  have hw : Region.wanted o (yielded ops a.tmps) = true := by simp [Region.wanted, hg]
  rw [if_pos hw]
  obtain ⟨v', w', hrun, r1, r2, _⟩ := run_append_own (P := P) w base t o.type e i z size bytes h1 h2 h3 h4 h5 h6 h7 v n xs hown ad m c news hn hc h1c b1 b2 b3
  unfold Oper.wp
  simp [execOp, hop, resolve, invoke, builtin, hs, hx, hrun, Result.andThen]
  exact hK v' w' r1 r2

theorem owns_succ {W : World} {base : Nat} {e : TypeId} {size : Nat} {v : Value} {k : Nat} {xs : List Value} (h : W.ownsRow base e size v (k + 1) xs) : ∃ g cap, v = .slice (some ⟨g, 0, none⟩) (k + 1) cap := by
  rcases h.2 with ⟨_, h0⟩ | ⟨g, cap, _, rfl, _⟩
  · omega
  · exact ⟨g, cap, rfl⟩


theorem info101 : (Ybaz.prog.info? 101).map (fun i => (i.zero, i.size, i.bytes)) = some (some (.agg #[.pointer none, .int .u8 0, .bool false, .bool false]), 4, 16) := by kernel_rfl
theorem info69 : (Ybaz.prog.info? 69).map (fun i => (i.zero, i.size, i.bytes)) = some (some (.agg #[.string { data := #[] }, .bool false, .int .u8 0, .int .i64 0, .string { data := #[] }]), 5, 56) := by kernel_rfl

/-- The transaction T: what its list of locks is. -/
def Txn (w : World) (T : Nat) (v : Value) : Prop := ∃ cs : Array Value, IsBlk w T cs 65 ∧ cs[19]? = some v
/-- A list of just the one target. -/
def OneLock (w : World) (v : Value) : Prop := ∃ (K cap : Nat) (cs : Array Value), v = .slice (some ⟨K, 0, none⟩) 1 cap ∧ IsBlk w K cs 69 ∧ cs[0]? = some (.string { data := #[116] }) ∧ cs[1]? = some (.bool false) ∧ cs[2]? = some (.int .u8 0) ∧ cs[3]? = some (.int .i64 0) ∧ cs[4]? = some (.string { data := #[] })

theorem Txn.turn {M : Nat → Prop} {w w' : World} {T : Nat} {v : Value} (h : Txn w T v) (k : Turn M w w') (hT : ¬ M T) : Txn w' T v := by
  obtain ⟨cs, hb, h19⟩ := h
  exact ⟨cs, hb.turn k hT, h19⟩
theorem Txn.grew {w w' : World} {T : Nat} {v : Value} (h : Txn w T v) (k : Grew w w') : Txn w' T v := h.turn k (by simp)
theorem Txn.cell {w : World} {T : Nat} {v : Value} (h : Txn w T v) : w.cell? ⟨T, 19, none⟩ = some v := by
  obtain ⟨cs, hb, h19⟩ := h
  exact (hb.cell 19).trans h19
theorem Txn.frozen {w : World} {T : Nat} {v : Value} (h : Txn w T v) : w.frozen? ⟨T, 19, none⟩ = false := by
  obtain ⟨cs, hb, h19⟩ := h
  exact hb.frozen 19
theorem Txn.lt {w : World} {T : Nat} {v : Value} (h : Txn w T v) : T < w.heap.size := by
  obtain ⟨cs, hb, h19⟩ := h
  exact hb.lt
theorem Txn.set {w : World} {T : Nat} {v : Value} (h : Txn w T v) (u : Value) : Txn (w.setCell ⟨T, 19, none⟩ u) T u := by
  obtain ⟨cs, hb, h19⟩ := h
  refine ⟨_, hb.set 19 u, ?_⟩
  have := (Array.getElem?_eq_some_iff.1 h19).1
  simp [this]
theorem OneLock.turn {M : Nat → Prop} {w w' : World} {v : Value} (h : OneLock w v) (k : Turn M w w') (hK : ∀ b, v.ownBlock = some b → ¬ M b) : OneLock w' v := by
  obtain ⟨K, cap, cs, rfl, hb, r⟩ := h
  exact ⟨K, cap, cs, rfl, hb.turn k (hK K rfl), r⟩
theorem OneLock.grew {w w' : World} {v : Value} (h : OneLock w v) (k : Grew w w') : OneLock w' v := h.turn k (by simp)

theorem Hold.set {w : World} {Q G cap T m : Nat} {g : Bool} (h : Hold w Q G cap T m g) (m2 : Nat) (g2 : Bool) :
    Hold (((w.setCell ⟨G, 1, none⟩ (.int .u8 m2)).setCell ⟨G, 2, none⟩ (.bool g2)).setCell ⟨G, 3, none⟩ (.bool false)) Q G cap T m2 g2 ∧ Turn (· = G) w (((w.setCell ⟨G, 1, none⟩ (.int .u8 m2)).setCell ⟨G, 2, none⟩ (.bool g2)).setCell ⟨G, 3, none⟩ (.bool false)) := by
  obtain ⟨hq, cs, hG, g0, g1, g2', g3⟩ := h
  have t : Turn (· = G) w (((w.setCell ⟨G, 1, none⟩ (.int .u8 m2)).setCell ⟨G, 2, none⟩ (.bool g2)).setCell ⟨G, 3, none⟩ (.bool false)) := ((Turn.set1 _ _ _ _).trans (Turn.set1 _ _ _ _)).trans (Turn.set1 _ _ _ _)
  have b1 := (Array.getElem?_eq_some_iff.1 g1).1
  have b2 := (Array.getElem?_eq_some_iff.1 g2').1
  have b3 := (Array.getElem?_eq_some_iff.1 g3).1
  refine ⟨⟨hq.turn t (IsBlk.ne hq hG (by decide)), _, ((hG.set 1 _).set 2 _).set 3 _, ?_, ?_, ?_, ?_⟩, t⟩
  · simp [Array.getElem?_setIfInBounds, g0]
  · simp [Array.getElem?_setIfInBounds, b1]
  · simp [Array.getElem?_setIfInBounds, b2]
  · simp [Array.getElem?_setIfInBounds, b3]

set_option maxRecDepth 100000 in
set_option maxHeartbeats 2000000 in
theorem grant_insert (Q X m : Nat) (g : Bool) (w : World) :
    Calls Ybaz.prog 21 #[.pointer (some ⟨Q, 0, none⟩), .pointer (some ⟨X, 0, none⟩), (.agg #[.string { data := #[116] }, .bool false, .int .u8 0, .int .i64 0, .string { data := #[] }]), .agg #[.int .u8 m, .bool g, .bool true]] w fun e w' => e = .returned (.tuple #[]) ∧ Grew w w' := by
  go_enter Ybaz.func21, Ybaz.ntmps21
  go_wp2_with fail
  refine bodyPost_ret (results_none rfl _ _ _) rfl ?_
  exact ⟨rfl, ((Turn.refl _ w).alloc _).alloc _⟩

set_option maxRecDepth 100000 in
set_option maxHeartbeats 4000000 in
theorem grant_more (Q G cap T m m' : Nat) (g g' : Bool) (w : World) (hC : Cov w) (hm : m < 5) (hm' : m' < 5) (hH : Hold w Q G cap T m' g') :
    Calls Ybaz.prog 21 #[.pointer (some ⟨Q, 0, none⟩), .pointer (some ⟨T, 0, none⟩), (.agg #[.string { data := #[116] }, .bool false, .int .u8 0, .int .i64 0, .string { data := #[] }]), .agg #[.int .u8 m, .bool g, .bool false]] w fun e w' => e = .returned (.tuple #[]) ∧ Hold w' Q G cap T (joinb m' m) (g' || g) ∧ Turn (· = G) w w' := by
  have hW : Grew w ((w.alloc (.cells #[.string { data := #[116] }, .bool false, .int .u8 0, .int .i64 0, .string { data := #[] }] 69)).alloc (.cells #[.int .u8 m, .bool g, .bool false] 73)) := ((Turn.refl _ w).alloc _).alloc _
  have hN : IsBlk ((w.alloc (.cells #[.string { data := #[116] }, .bool false, .int .u8 0, .int .i64 0, .string { data := #[] }] 69)).alloc (.cells #[.int .u8 m, .bool g, .bool false] 73)) (w.heap.size + 1) #[.int .u8 m, .bool g, .bool false] 73 := by
    have := IsBlk.new (w.alloc (.cells #[.string { data := #[116] }, .bool false, .int .u8 0, .int .i64 0, .string { data := #[] }] 69)) #[.int .u8 m, .bool g, .bool false] 73
    simpa using this
  go_enter Ybaz.func21, Ybaz.ntmps21
  go_wp2_with fail
  refine (holder_one Q G cap T T m' g' true _ (hH.grew hW) ((PEq.same w T).grew hW)).mono ?_
  rintro e w1 ⟨rfl, hw1⟩
  have hN1 := hN.turn hw1 (by simp)
  have hW1 := hW.trans hw1
  have hH1 := hH.grew hW1
  have hC1 : Cov w1.drew := hC.grew hW1.drew
  have q0 := hH1.q.c0
  have HS := hH1.set (joinb m' m) (g' || g)
  obtain ⟨hq, cs, hG, g0, g1, g2, g3⟩ := hH1
  have n0 := hN1.c0
  have n1 := hN1.c1
  have c1 := (hG.cell 1).trans g1
  have c2 := (hG.cell 2).trans g2
  have c3 := (hG.cell 3).trans g3
  have f1 := hG.frozen 1
  have f2 := hG.frozen 2
  have f3 := hG.frozen 3
  simp only [if_pos]
  cases g'
  all_goals
    go_wp2_with fail
    refine region_tail 21 (by kernel_rfl) (by kernel_rfl) ?_
    simp only [List.take_succ_cons, List.take_zero, List.drop_succ_cons, List.drop_zero]
    iterate 8 still_step
    still_call (join_any m' m hm' hm _ hC1)
    iterate 12 still_step
    refine wpStill_nil ?_
    go_wp2_with fail
    refine bodyPost_ret (results_none rfl _ _ _) rfl ⟨rfl, HS.1.turn (Turn.refl (fun _ => False) _).drew (by simp) (by simp), ((Turn.of_grew (M := (· = G)) hW1).trans HS.2).drew⟩

theorem owned_one {w : World} {base : Nat} {e : TypeId} {size : Nat} {v : Value} {xs : List Value} (h : w.ownsRow base e size v 1 xs) : ∃ g cap cs, v = .slice (some ⟨g, 0, none⟩) 1 cap ∧ base ≤ g ∧ IsBlk w g cs e ∧ ∀ i, i < xs.length → cs[i]? = xs[i]? := by
  rcases h.2 with ⟨_, h0⟩ | ⟨g, cap, cur, rfl, hb, hg, _, _, _, ht⟩
  · omega
  · refine ⟨g, cap, cur, rfl, hb, hg, fun i hi => ?_⟩
    rw [← ht, List.getElem?_take]
    rw [h.1] at hi
    rw [if_pos hi, Array.getElem?_toList]

set_option maxRecDepth 100000 in
set_option maxHeartbeats 4000000 in
theorem grant_first (Q T m : Nat) (g : Bool) (w : World) (hQ : IsBlk w Q #[.slice none 0 0, .slice none 0 0] 99) (hT : Txn w T (.slice none 0 0)) :
    Calls Ybaz.prog 21 #[.pointer (some ⟨Q, 0, none⟩), .pointer (some ⟨T, 0, none⟩), (.agg #[.string { data := #[116] }, .bool false, .int .u8 0, .int .i64 0, .string { data := #[] }]), .agg #[.int .u8 m, .bool g, .bool false]] w fun e w' => e = .returned (.tuple #[]) ∧ ∃ G cap v, w.heap.size ≤ G ∧ Hold w' Q G cap T m g ∧ Txn w' T v ∧ OneLock w' v ∧ (∀ b, v.ownBlock = some b → w.heap.size ≤ b) ∧ Turn (fun k => k = Q ∨ k = T) w w' := by
  have hW : Grew w ((w.alloc (.cells #[.string { data := #[116] }, .bool false, .int .u8 0, .int .i64 0, .string { data := #[] }] 69)).alloc (.cells #[.int .u8 m, .bool g, .bool false] 73)) := ((Turn.refl _ w).alloc _).alloc _
  have hN : IsBlk ((w.alloc (.cells #[.string { data := #[116] }, .bool false, .int .u8 0, .int .i64 0, .string { data := #[] }] 69)).alloc (.cells #[.int .u8 m, .bool g, .bool false] 73)) (w.heap.size + 1) #[.int .u8 m, .bool g, .bool false] 73 := by
    have := IsBlk.new (w.alloc (.cells #[.string { data := #[116] }, .bool false, .int .u8 0, .int .i64 0, .string { data := #[] }] 69)) #[.int .u8 m, .bool g, .bool false] 73
    simpa using this
  have hB : IsBlk ((w.alloc (.cells #[.string { data := #[116] }, .bool false, .int .u8 0, .int .i64 0, .string { data := #[] }] 69)).alloc (.cells #[.int .u8 m, .bool g, .bool false] 73)) w.heap.size #[.string { data := #[116] }, .bool false, .int .u8 0, .int .i64 0, .string { data := #[] }] 69 := (IsBlk.new w _ 69).turn ((Turn.refl (fun _ => False) _).alloc _) (by simp)
  go_enter Ybaz.func21, Ybaz.ntmps21
  go_wp2_with fail
  refine (holder_none Q T _ (hQ.turn hW (by simp))).mono ?_
  rintro e w1 ⟨rfl, hw1⟩
  have hN1 := hN.turn hw1 (by simp)
  have hB1 := hB.turn hw1 (by simp)
  have hW1 := hW.trans hw1
  have hQ1 := hQ.turn hW1 (by simp)
  have hT1 := hT.grew hW1
  have hQlt := hQ1.lt
  have hTlt := hT1.lt
  have q0 := hQ1.c0
  have n0 := hN1.c0
  have n1 := hN1.c1
  have n2 := hN1.c2
  clear hW hN hB hw1
  go_wp2_with fail
  obtain ⟨i0, hi, hz0, hz1, hz2⟩ := info_parts info101
  obtain ⟨j0, ji, jz0, jz1, jz2⟩ := info_parts info69
  have HO : Hid (((w1.alloc (.cells #[.pointer (some ⟨T, 0, none⟩), .int .u8 m, .bool g, .bool false] 101)).drew).ownsRow w.heap.size 101 4 (.slice none 0 0) 0 []) := World.ownsRow_nil _ _ _ _
  have HN1 : ∀ (j : Nat) (u : Value), [Value.pointer (some ⟨T, 0, none⟩), .int .u8 m, .bool g, .bool false][j]? = some u → ((w1.alloc (.cells #[.pointer (some ⟨T, 0, none⟩), .int .u8 m, .bool g, .bool false] 101)).drew).cell? ((⟨w1.heap.size, 0, none⟩ : Addr).add j) = some u := by
    intro j u hj
    have hb := (IsBlk.new w1 #[.pointer (some ⟨T, 0, none⟩), .int .u8 m, .bool g, .bool false] 101).turn ((Turn.refl (fun _ => False) _).drew) (by simp)
    have e : (⟨w1.heap.size, 0, none⟩ : Addr).add j = ⟨w1.heap.size, j, none⟩ := by simp [Addr.add, eq_comm]
    rw [e, hb.cell j]
    simpa using hj
  have HN1' : Hid (∀ (j : Nat) (u : Value), [Value.pointer (some ⟨T, 0, none⟩), .int .u8 m, .bool g, .bool false][j]? = some u → ((w1.alloc (.cells #[.pointer (some ⟨T, 0, none⟩), .int .u8 m, .bool g, .bool false] 101)).drew).cell? ((⟨w1.heap.size, 0, none⟩ : Addr).add j) = some u) := HN1
  have HN2 : ∀ u ∈ [Value.pointer (some ⟨T, 0, none⟩), .int .u8 m, .bool g, .bool false], u.oneCell' = true := by simp [Value.oneCell']
  have HBB : w.heap.size ≤ ((w1.alloc (.cells #[.pointer (some ⟨T, 0, none⟩), .int .u8 m, .bool g, .bool false] 101)).drew).heap.size := by have := hW1.size; simp; omega
  have HF : Hid (∀ w2, ((w1.alloc (.cells #[.pointer (some ⟨T, 0, none⟩), .int .u8 m, .bool g, .bool false] 101)).drew).grownBy w2 none → Grew w1 w2 ∧ w2.cell? ⟨Q, 0, none⟩ = some (.slice none 0 0) ∧ w2.frozen? ⟨Q, 0, none⟩ = false) := by
    intro w2 h2
    have t2 : Grew w1 w2 := ((Turn.refl _ w1).alloc _).drew.grown h2 (fun k e => by cases e)
    have := hQ1.turn t2 (by simp)
    exact ⟨t2, this.c0, this.frozen 0⟩
  clear HN1
  go_region_law (refine step_append_own rfl _ _ 96 rfl w.heap.size 101 i0 _ 4 16 Ybaz.underlying96 hi hz0 hz1 hz2 rfl (by decide) (.slice none 0 0) 0 [] rfl HO.out ⟨w1.heap.size, 0, none⟩ 1 1 [.pointer (some ⟨T, 0, none⟩), .int .u8 m, .bool g, .bool false] rfl rfl HN1'.out HN2 (by decide) (by decide) HBB ?_; intro v2 w2 hown2 hgr2; obtain ⟨G, cap, csG, rfl, hG1, hG2, hG3⟩ := owned_one hown2; obtain ⟨t2, q2, qf2⟩ := HF.out w2 hgr2; clear hown2 hgr2)
  all_goals
    have hQ2 := (hQ1.turn t2 (by simp)).set 0 (.slice (some ⟨G, 0, none⟩) 1 cap)
    have t3 : Turn (· = Q) w1 (w2.setCell ⟨Q, 0, none⟩ (.slice (some ⟨G, 0, none⟩) 1 cap)) := (Turn.of_grew (M := (· = Q)) t2).setCell (p := ⟨Q, 0, none⟩) (Or.inl rfl) _
    have hneG : G ≠ Q := IsBlk.ne hG2 (hQ1.turn t2 (by simp)) (by decide)
    have hG4 := hG2.turn (Turn.set1 w2 Q 0 (.slice (some ⟨G, 0, none⟩) 1 cap)) hneG
    have hB3 := hB1.turn t3 (IsBlk.ne hB1 hQ1 (by decide))
    have hQTne : T ≠ Q := by
      obtain ⟨cs, hb, _⟩ := hT1
      exact IsBlk.ne hb hQ1 (by decide)
    have hT3 := hT1.turn t3 hQTne
    have hGT : G ≠ T := by
      obtain ⟨cs, hb, _⟩ := hT3
      exact IsBlk.ne hG4 hb (by decide)
    have hQ3 : IsBlk (w2.setCell ⟨Q, 0, none⟩ (.slice (some ⟨G, 0, none⟩) 1 cap)) Q #[.slice (some ⟨G, 0, none⟩) 1 cap, .slice none 0 0] 99 := by simpa using hQ2
    have tW : Turn (fun k => k = Q ∨ k = T) w (w2.setCell ⟨Q, 0, none⟩ (.slice (some ⟨G, 0, none⟩) 1 cap)) := (Turn.of_grew (M := fun k => k = Q ∨ k = T) hW1).then t3 (fun i hi e => Or.inl e)
    clear q2 qf2 hQ2 t3 hG2 t2 hW1 hN1 hB1 hQ1 hT1 q0 n0 n1 n2 HBB
    have g0 := hG3 0 (by simp)
    have g1 := hG3 1 (by simp)
    have g2 := hG3 2 (by simp)
    have g3 := hG3 3 (by simp)
    simp at g0 g1 g2 g3
    clear hG3
    show Exit.then _ _ _ _ _
    generalize w2.setCell ⟨Q, 0, none⟩ (.slice (some ⟨G, 0, none⟩) 1 cap) = W at *
    have l0 := hT3.cell
    have hTl := hT3.lt
    have x0 := hB3.c0
    have x1 := hB3.c1
    have x2 := hB3.c2
    have x3 := hB3.c3
    have x4 : W.cell? ⟨w.heap.size, 4, none⟩ = some (.string { data := #[] }) := (hB3.cell 4).trans rfl
    have LO : Hid (((W.alloc (.cells #[.string { data := #[116] }, .bool false, .int .u8 0, .int .i64 0, .string { data := #[] }] 69)).drew).ownsRow w.heap.size 69 5 (.slice none 0 0) 0 []) := World.ownsRow_nil _ _ _ _
    have LN1 : Hid (∀ (j : Nat) (u : Value), [Value.string { data := #[116] }, .bool false, .int .u8 0, .int .i64 0, .string { data := #[] }][j]? = some u → ((W.alloc (.cells #[.string { data := #[116] }, .bool false, .int .u8 0, .int .i64 0, .string { data := #[] }] 69)).drew).cell? ((⟨W.heap.size, 0, none⟩ : Addr).add j) = some u) := by
      intro j u hj
      have hb := (IsBlk.new W #[.string { data := #[116] }, .bool false, .int .u8 0, .int .i64 0, .string { data := #[] }] 69).turn ((Turn.refl (fun _ => False) _).drew) (by simp)
      have e : (⟨W.heap.size, 0, none⟩ : Addr).add j = ⟨W.heap.size, j, none⟩ := by simp [Addr.add, eq_comm]
      rw [e, hb.cell j]
      simpa using hj
    have LN2 : ∀ u ∈ [Value.string { data := #[116] }, .bool false, .int .u8 0, .int .i64 0, .string { data := #[] }], u.oneCell' = true := by simp [Value.oneCell']
    have LBB : w.heap.size ≤ ((W.alloc (.cells #[.string { data := #[116] }, .bool false, .int .u8 0, .int .i64 0, .string { data := #[] }] 69)).drew).heap.size := by have := tW.size; simp; omega
    have LF : Hid (∀ w5, ((W.alloc (.cells #[.string { data := #[116] }, .bool false, .int .u8 0, .int .i64 0, .string { data := #[] }] 69)).drew).grownBy w5 none → Grew W w5 ∧ w5.cell? ⟨T, 19, none⟩ = some (.slice none 0 0) ∧ w5.frozen? ⟨T, 19, none⟩ = false) := by
      intro w5 h5
      have t5 : Grew W w5 := ((Turn.refl _ W).alloc _).drew.grown h5 (fun k e => by cases e)
      have := hT3.grew t5
      exact ⟨t5, this.cell, this.frozen⟩
    go_wp2_with fail
    go_region_law (refine step_append_own rfl _ _ 42 rfl w.heap.size 69 j0 _ 5 56 Ybaz.underlying42 ji jz0 jz1 jz2 rfl (by decide) (.slice none 0 0) 0 [] rfl LO.out ⟨W.heap.size, 0, none⟩ 1 1 [Value.string { data := #[116] }, .bool false, .int .u8 0, .int .i64 0, .string { data := #[] }] rfl rfl LN1.out LN2 (by decide) (by decide) LBB ?_; intro v5 w5 hown5 hgr5; obtain ⟨K5, cap5, csK, rfl, hK1, hK2, hK3⟩ := owned_one hown5; obtain ⟨t5, l5, lf5⟩ := LF.out w5 hgr5; clear hown5 hgr5)
    all_goals
      have tS := Turn.set1 w5 T 19 (.slice (some ⟨K5, 0, none⟩) 1 cap5)
      have hTQ : Q ≠ T := fun e => hQTne e.symm
      have hH6 : Hold (w5.setCell ⟨T, 19, none⟩ (.slice (some ⟨K5, 0, none⟩) 1 cap5)) Q G cap T m g := ⟨(hQ3.turn t5 (by simp)).turn tS hTQ, csG, (hG4.turn t5 (by simp)).turn tS hGT, g0, g1, g2, g3⟩
      have hT6 := (hT3.grew t5).set (.slice (some ⟨K5, 0, none⟩) 1 cap5)
      have hKT : K5 ≠ T := by
        obtain ⟨cs, hb, _⟩ := hT3.grew t5
        exact IsBlk.ne hK2 hb (by decide)
      have k0 := hK3 0 (by simp)
      have k1 := hK3 1 (by simp)
      have k2 := hK3 2 (by simp)
      have k3 := hK3 3 (by simp)
      have k4 := hK3 4 (by simp)
      simp at k0 k1 k2 k3 k4
      have hO6 : OneLock (w5.setCell ⟨T, 19, none⟩ (.slice (some ⟨K5, 0, none⟩) 1 cap5)) (.slice (some ⟨K5, 0, none⟩) 1 cap5) := ⟨K5, cap5, csK, rfl, hK2.turn tS hKT, k0, k1, k2, k3, k4⟩
      have tF := (tW.grew t5).then tS (fun i hi e => Or.inr e)
      clear hK3 k0 k1 k2 k3 k4 g0 g1 g2 g3
      go_wp2_with fail
      go_end0
      exact ⟨rfl, G, cap, _, hG1, hH6, hT6, hO6, fun b hb => by simp [Value.ownBlock] at hb; omega, tF⟩
end Go.Proofs.YbulkdetkGreatDoor
