import Derived.Test.YbulkdetyC16
namespace Go.Proofs.Ybulkdety
open Go.RowKit Go.Lib
set_option linter.unusedVariables false

/-- The links behind s rounds: from the head h to n, and on from each new bucket to the next. -/
def chainNx (n h s f : Nat) : Nat := if s = 0 then 0 else if f = h then n else if n ≤ f ∧ f + 1 < n + s then f + 1 else 0
/-- The bucket that the next link leaves from. -/
def lastOf (n h s : Nat) : Nat := if s = 0 then h else n + s - 1

theorem chainNx_zero (n h : Nat) : chainNx n h 0 = fun _ => 0 := by funext f; simp [chainNx]
theorem chainNx_last (n h s : Nat) (hh : h < n) : chainNx n h s (lastOf n h s) = 0 := by
  unfold chainNx lastOf
  by_cases e : s = 0
  · rw [if_pos e]
  · rw [if_neg e, if_neg e, if_neg (by omega), if_neg (by omega)]
theorem chainNx_succ (n h s : Nat) (hh : h < n) : upd (chainNx n h s) (lastOf n h s) (n + s) = chainNx n h (s + 1) := by
  funext f
  unfold upd chainNx lastOf
  by_cases e : s = 0
  · subst e
    by_cases e1 : f = h
    · simp [e1]
    · simp [e1]
  · by_cases e1 : f = h
    · subst e1
      rw [if_neg e, if_neg (by omega), if_neg e, if_pos rfl, if_neg (by omega), if_pos rfl]
    · rw [if_neg e, if_neg e, if_neg e1, if_neg (by omega : ¬ s + 1 = 0), if_neg e1]
      by_cases e2 : f = n + s - 1
      · rw [if_pos e2, if_pos (by omega)]; omega
      · rw [if_neg e2]
        by_cases e3 : n ≤ f ∧ f + 1 < n + s
        · rw [if_pos e3, if_pos (by omega)]
        · rw [if_neg e3, if_neg (by omega)]

/-- The chain's tail: r buckets from n + a on. -/
def tailFrom (n : Nat) : Nat → Nat → List Nat
  | a, 0 => []
  | a, r + 1 => (n + a) :: tailFrom n (a + 1) r
theorem tailFrom_length (n a r : Nat) : (tailFrom n a r).length = r := by
  induction r generalizing a with
  | zero => rfl
  | succ r ih => simp [tailFrom, ih]

theorem leads_new (n h k a : Nat) (hh : h < n) (ha : a < k) : leads (chainNx n h k) (n + a) = if a + 1 < k then ((n + a + 1 : Nat) : Int) else -1 := by
  unfold leads chainNx
  rw [if_neg (by omega : ¬ k = 0), if_neg (by omega : ¬ n + a = h)]
  by_cases e : a + 1 < k
  · rw [if_pos (by omega : n ≤ n + a ∧ n + a + 1 < n + k), if_neg (by omega), if_pos e]
  · rw [if_neg (by omega : ¬ (n ≤ n + a ∧ n + a + 1 < n + k)), if_pos rfl, if_neg e]

theorem tail_chain (n h k a r : Nat) (hh : h < n) (har : a + r = k) : IsChain (fun j => j < n + k) (leads (chainNx n h k)) (tailFrom n a r) := by
  induction r generalizing a with
  | zero => trivial
  | succ r ih =>
    refine ⟨by omega, ?_, ih (a + 1) (by omega)⟩
    rw [leads_new n h k a hh (by omega)]
    cases r with
    | zero => rw [if_neg (by omega)]; rfl
    | succ r => rw [if_pos (by omega)]; simp only [tailFrom, chainHead]; omega

theorem head_chain (n h k : Nat) (hh : h < n) : IsChain (fun j => j < n + k) (leads (chainNx n h k)) (h :: tailFrom n 0 k) := by
  refine ⟨by omega, ?_, tail_chain n h k 0 k hh (by omega)⟩
  unfold leads chainNx
  cases k with
  | zero => simp [tailFrom, chainHead]
  | succ k =>
    rw [if_neg (by omega : ¬ k + 1 = 0), if_pos rfl, if_neg (by omega)]
    simp [tailFrom, chainHead]

theorem lone_chain (n h k m : Nat) (hm : m < n) (hne : m ≠ h) : IsChain (fun j => j < n + k) (leads (chainNx n h k)) [m] := by
  refine ⟨by omega, ?_, trivial⟩
  unfold leads chainNx
  by_cases e : k = 0
  · simp [e, chainHead]
  · rw [if_neg e, if_neg hne, if_neg (by omega : ¬ (n ≤ m ∧ m + 1 < n + k)), if_pos rfl]; rfl

/-- The count that the law adds up. -/
def wantOf (len : Nat) (g : Nat → Int) (n h : Nat) : Nat → Nat
  | 0 => cnt len g (h * 8) 8
  | p + 1 => wantOf len g n h p + cnt len g ((n + p) * 8) 8
theorem wantOf_le (len : Nat) (g : Nat → Int) (n h p : Nat) : wantOf len g n h p ≤ 8 * p + 8 := by
  induction p with
  | zero => have := cnt_le len g (h * 8) 8; simp only [wantOf]; omega
  | succ p ih => have := cnt_le len g ((n + p) * 8) 8; simp only [wantOf]; omega

theorem tail_sum (len : Nat) (g : Nat → Int) (n h k a r : Nat) (har : a + r = k) : wantOf len g n h a + chainSum (topAt len g (n + k)) (tailFrom n a r) = wantOf len g n h k := by
  induction r generalizing a with
  | zero => simp only [tailFrom, chainSum]; rw [← har]; rfl
  | succ r ih =>
    simp only [tailFrom, chainSum]
    rw [tops5_eq len g (n + k) (n + a) 8 (by omega), ← ih (a + 1) (by omega)]
    simp only [wantOf]
    omega
theorem head_sum (len : Nat) (g : Nat → Int) (n h k : Nat) (hh : h < n) : chainSum (topAt len g (n + k)) (h :: tailFrom n 0 k) = wantOf len g n h k := by
  have := tail_sum len g n h k 0 k (by omega)
  simp only [chainSum]
  rw [tops5_eq len g (n + k) h 8 (by omega), ← this]
  rfl
theorem lone_sum (len : Nat) (g : Nat → Int) (n m : Nat) (hm : m < n) : chainSum (topAt len g n) [m] = cnt len g (m * 8) 8 := by
  simp only [chainSum, Nat.add_zero]
  exact tops5_eq len g n m 8 hm

theorem topAt_step (len : Nat) (g : Nat → Int) (m : Nat) : (fun j q => if j = m then (if m * 8 + q < len then g (m * 8 + q) else topAt len g m m q) else topAt len g m j q) = topAt len g (m + 1) := by
  funext j q
  unfold topAt
  by_cases e : j = m
  · subst e
    rw [if_pos rfl]
    by_cases e2 : j * 8 + q < len
    · rw [if_pos e2, if_pos (by omega)]
    · rw [if_neg e2, if_neg (by omega), if_neg (by omega)]
  · rw [if_neg e]
    by_cases e2 : j < m ∧ j * 8 + q < len
    · rw [if_pos e2, if_pos (by omega)]
    · rw [if_neg e2, if_neg (by omega)]

theorem ArrNew.st {A S P cap n : Nat} {w w' : World} (h : ArrNew A S P cap n w w') (hn : n ≤ cap) : St A S n cap 0 (fun _ => 0) [] [] w' := by
  have hAP := h.hAP
  have hPS := h.hPS
  refine ⟨⟨by omega, _, _, _, h.blkA, Or.inl ⟨rfl, rfl, rfl, rfl⟩, ?_⟩, ⟨by simp, by simp, by simp, by simp⟩, h.hS⟩
  have e : n + 0 - cap = 0 := by omega
  rw [e]
  exact ⟨rfl, rfl, Or.inl ⟨rfl, rfl⟩⟩

theorem St.turn {A S n cap c : Nat} {nx : Nat → Nat} {zl bl : List Nat} {w w' : World} {M : Nat → Prop} (h : St A S n cap c nx zl bl w) (t : Turn M w w') (hM : OnlyTypes M w [3]) : St A S n cap c nx zl bl w' :=
  ⟨h.arr.turn t (hM.spares (by decide)), h.bk.turn t (hM.spares (by decide)), Nat.lt_of_lt_of_le h.hS t.size⟩

theorem b16_at (i q : Nat) (hi : i < 16) (hq : q < 8) : b16[i * 24 + q]? = some (.int .u8 0) := by
  have hs : bzero.size = 24 := rfl
  unfold b16
  rw [zeroCells_at _ _ _ (by rw [hs]; omega), hs, show (i * 24 + q) % 24 = q by omega]
  exact bzero_top q hq

/-- The chains built, no bucket filled yet. -/
theorem St.full {A S P n cap c : Nat} {nx : Nat → Nat} {zl bl : List Nat} {w0 w1 w : World} (h : St A S n cap c nx zl bl w) (hN : ArrNew A S P cap n w0 w1) (hk : Keeps w1 w) (ht : Turn (fun k => k = A ∨ S + 1 ≤ k) w1 w) (hc : n + c ≤ 47) :
    Full A S P n cap c nx zl bl (fun _ _ => 0) w := by
  have hAP := hN.hAP
  have hPS := hN.hPS
  obtain ⟨csP, hP⟩ := hN.blkP
  have hPw : w.heap[P]? = w1.heap[P]? := hk P csP 50 hP (by decide)
  have hP' : IsBlk w P csP 50 := hP.same hPw
  obtain ⟨l1, l2⟩ := h.arr.lens
  refine ⟨h.arr, hAP, hPS, hN.blkS.turn ht (by omega), ⟨csP, hP'⟩, h.bk.zn, h.bk.bn, fun z hz => ⟨(h.bk.z z hz).1, _, (h.bk.z z hz).2⟩, fun b hb => ⟨(h.bk.b b hb).1, _, (h.bk.b b hb).2⟩, ?_, ?_⟩
  · intro j hj q hq
    unfold loc
    by_cases h1 : j < cap
    · rw [if_pos h1]
      exact (World.cell?_of_block (a := ⟨P, j * 24 + q, none⟩) hPw).trans (hN.p0 j q h1 hq)
    · rw [if_neg h1]
      by_cases h2 : j - cap < 16
      · rw [if_pos h2]
        have hz : j - cap < zl.length := by omega
        rw [List.getD_eq_getElem?_getD, List.getElem?_eq_getElem hz]
        simp only [Option.getD_some, Nat.zero_add]
        rw [(h.bk.z _ (List.getElem_mem hz)).2.cell]
        exact bzero_top q hq
      · rw [if_neg h2]
        have hb : (j - cap - 16) / 16 < bl.length := by omega
        rw [List.getD_eq_getElem?_getD, List.getElem?_eq_getElem hb]
        simp only [Option.getD_some]
        rw [(h.bk.b _ (List.getElem_mem hb)).2.cell]
        exact b16_at _ q (Nat.mod_lt _ (by decide)) hq
  · intro j hj i
    unfold loc
    by_cases h1 : j < cap
    · rw [if_pos h1]; exact hP'.frozen i
    · rw [if_neg h1]
      by_cases h2 : j - cap < 16
      · rw [if_pos h2]
        have hz : j - cap < zl.length := by omega
        rw [List.getD_eq_getElem?_getD, List.getElem?_eq_getElem hz]
        exact (h.bk.z _ (List.getElem_mem hz)).2.frozen i
      · rw [if_neg h2]
        have hb : (j - cap - 16) / 16 < bl.length := by omega
        rw [List.getD_eq_getElem?_getD, List.getElem?_eq_getElem hb]
        exact (h.bk.b _ (List.getElem_mem hb)).2.frozen i

/-- One bucket filled: the whole step. -/
theorem Full.fillStep {N A S P n cap c : Nat} {nx : Nat → Nat} {zl bl : List Nat} {w0 w w' : World} {C k : Nat} {xs : List Value} {len : Nat} {g : Nat → Int} (m : Nat) (h : Full A S P n cap c nx zl bl (topAt len g m) w) (hm : m < n + c) (hc : n + c ≤ 47) (hN : N ≤ A)
    (hO : w.ownsRow C 3 1 (.slice (some ⟨C, 0, none⟩) k k) k xs) (hB : Below N w0 w) (hF : Filled (loc P cap zl bl m).1 (loc P cap zl bl m).2 len (m * 8) 8 g w w') :
    Full A S P n cap c nx zl bl (topAt len g (m + 1)) w' ∧ w'.ownsRow C 3 1 (.slice (some ⟨C, 0, none⟩) k k) k xs ∧ Below N w0 w' := by
  obtain ⟨cs, t, hb, ht⟩ := h.typ m hm hc
  have hlt : N ≤ (loc P cap zl bl m).1 := by
    have h1 := h.hAP
    have h2 := h.hPS
    rcases h.kind m hm hc with ⟨_, e⟩ | ⟨_, _, hz, e⟩ | ⟨_, _, hb', e⟩
    · rw [e]; simp only; omega
    · rw [e]; have := (h.z _ (List.getElem_mem hz)).1; simp only; omega
    · rw [e]; have := (h.b _ (List.getElem_mem hb')).1; simp only; omega
  refine ⟨?_, ?_, hB.trans (hF.below.mono hlt)⟩
  · rw [← topAt_step]; exact h.filled m hm hc hF
  · refine owns_turn hO hF.turn (fun b hb' e => ?_)
    subst e
    exact owns_ne hO hb (by rcases List.mem_cons.1 ht with rfl | ht; decide; rcases List.mem_cons.1 ht with rfl | ht; decide; cases ht) hb'
theorem Full.a0 {A S P n cap c : Nat} {nx : Nat → Nat} {zl bl : List Nat} {T : Nat → Nat → Int} {w : World} (h : Full A S P n cap c nx zl bl T w) : w.cell? ⟨A, 0, none⟩ = some (.slice (some ⟨S, 0, none⟩) 1 1) := by
  obtain ⟨_, sg, sh, xp, hA, _⟩ := h.arr
  exact (hA.cell 0).trans rfl
theorem Full.a5 {A S P n cap c : Nat} {nx : Nat → Nat} {zl bl : List Nat} {T : Nat → Nat → Int} {w : World} (h : Full A S P n cap c nx zl bl T w) : w.cell? ⟨A, 5, none⟩ = some (.int .i64 c) := by
  obtain ⟨_, sg, sh, xp, hA, _⟩ := h.arr
  exact (hA.cell 5).trans rfl
theorem loc_page (P cap : Nat) (zl bl : List Nat) (j : Nat) (hj : j < cap) : loc P cap zl bl j = (P, j * 24) := by unfold loc; rw [if_pos hj]
end Go.Proofs.Ybulkdety
