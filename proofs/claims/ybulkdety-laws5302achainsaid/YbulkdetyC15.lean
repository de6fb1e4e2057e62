import Derived.Test.YbulkdetyC14
namespace Go.Proofs.Ybulkdety
open Go.RowKit Go.Lib
set_option linter.unusedVariables false

/-- Where bucket j lies. -/
def loc (P cap : Nat) (zl bl : List Nat) (j : Nat) : Nat × Nat :=
  if j < cap then (P, j * 24) else if j - cap < 16 then (zl.getD (j - cap) 0, 0) else (bl.getD ((j - cap - 16) / 16) 0, ((j - cap - 16) % 16) * 24)

/-- The array with its chains built, its buckets' top hashes T. -/
structure Full (A S P n cap c : Nat) (nx : Nat → Nat) (zl bl : List Nat) (T : Nat → Nat → Int) (w : World) : Prop where
  arr : ArrC A S n cap c (n + c - cap) nx zl bl w
  hAP : A < P
  hPS : P < S
  blkS : IsBlk w S #[.slice (some ⟨P, 0, none⟩) cap cap] 51
  blkP : ∃ cs, IsBlk w P cs 50
  zn : zl.Nodup
  bn : bl.Nodup
  z : ∀ z ∈ zl, S + 1 ≤ z ∧ ∃ cs, IsBlk w z cs 50
  b : ∀ b ∈ bl, S + 1 ≤ b ∧ ∃ cs, IsBlk w b cs 62
  top : ∀ j, j < n + c → ∀ q, q < 8 → w.cell? ⟨(loc P cap zl bl j).1, (loc P cap zl bl j).2 + q, none⟩ = some (.int .u8 (T j q))
  frz : ∀ j, j < n + c → ∀ i, w.frozen? ⟨(loc P cap zl bl j).1, i, none⟩ = false

theorem ArrC.lens {A S n cap c e : Nat} {nx : Nat → Nat} {zl bl : List Nat} {w : World} (h : ArrC A S n cap c e nx zl bl w) : zl.length = min e 16 ∧ bl.length = (e - 16 + 15) / 16 := by
  obtain ⟨_, sg, sh, xp, _, _, h1, h2, _⟩ := h
  exact ⟨h1, h2⟩

theorem ArrC.turn {A S n cap c e : Nat} {nx : Nat → Nat} {zl bl : List Nat} {w w' : World} {M : Nat → Prop} (h : ArrC A S n cap c e nx zl bl w) (t : Turn M w w') (hM : Spares M w frameTypes) : ArrC A S n cap c e nx zl bl w' := by
  obtain ⟨h1, sg, sh, xp, hA, hL, hE⟩ := h
  have sub : ∀ ts : List TypeId, (∀ x ∈ ts, x ∈ frameTypes) → Spares M w ts := fun ts hts k cs t' hk ht' => hM k cs t' hk (hts t' ht')
  exact ⟨h1, sg, sh, xp, hA.turn t (hM _ _ _ hA (by decide)), hL.turn t (sub _ (by decide)), hE.turn t (sub _ (by decide))⟩

section
variable {A S P n cap c : Nat} {nx : Nat → Nat} {zl bl : List Nat} {T : Nat → Nat → Int} {w : World}

/-- The kind of a bucket's place: the page, a single bucket, or a block. -/
theorem Full.kind (h : Full A S P n cap c nx zl bl T w) (j : Nat) (hj : j < n + c) (hc : n + c ≤ 47) :
    (j < cap ∧ loc P cap zl bl j = (P, j * 24)) ∨
    (cap ≤ j ∧ j - cap < 16 ∧ ∃ hz : j - cap < zl.length, loc P cap zl bl j = (zl[j - cap], 0)) ∨
    (cap ≤ j ∧ 16 ≤ j - cap ∧ ∃ hb : (j - cap - 16) / 16 < bl.length, loc P cap zl bl j = (bl[(j - cap - 16) / 16], ((j - cap - 16) % 16) * 24)) := by
  obtain ⟨l1, l2⟩ := h.arr.lens
  by_cases h1 : j < cap
  · exact Or.inl ⟨h1, by unfold loc; rw [if_pos h1]⟩
  · by_cases h2 : j - cap < 16
    · have hz : j - cap < zl.length := by omega
      refine Or.inr (Or.inl ⟨by omega, h2, hz, ?_⟩)
      unfold loc
      rw [if_neg h1, if_pos h2, List.getD_eq_getElem?_getD, List.getElem?_eq_getElem hz]
      rfl
    · have hb : (j - cap - 16) / 16 < bl.length := by omega
      refine Or.inr (Or.inr ⟨by omega, by omega, hb, ?_⟩)
      unfold loc
      rw [if_neg h1, if_neg h2, List.getD_eq_getElem?_getD, List.getElem?_eq_getElem hb]
      rfl

theorem Full.typ (h : Full A S P n cap c nx zl bl T w) (j : Nat) (hj : j < n + c) (hc : n + c ≤ 47) : ∃ cs t, IsBlk w (loc P cap zl bl j).1 cs t ∧ t ∈ ([50, 62] : List TypeId) := by
  rcases h.kind j hj hc with ⟨_, e⟩ | ⟨_, _, hz, e⟩ | ⟨_, _, hb, e⟩
  · obtain ⟨cs, hP⟩ := h.blkP
    rw [e]; exact ⟨cs, 50, hP, by decide⟩
  · obtain ⟨_, cs, hcs⟩ := h.z _ (List.getElem_mem hz)
    rw [e]; exact ⟨cs, 50, hcs, by decide⟩
  · obtain ⟨_, cs, hcs⟩ := h.b _ (List.getElem_mem hb)
    rw [e]; exact ⟨cs, 62, hcs, by decide⟩

/-- Two buckets lie apart. -/
theorem Full.apart (h : Full A S P n cap c nx zl bl T w) (j m : Nat) (hj : j < n + c) (hm : m < n + c) (hc : n + c ≤ 47) (hne : j ≠ m) :
    (loc P cap zl bl j).1 ≠ (loc P cap zl bl m).1 ∨ (loc P cap zl bl j).2 + 8 ≤ (loc P cap zl bl m).2 ∨ (loc P cap zl bl m).2 + 8 ≤ (loc P cap zl bl j).2 := by
  have hPS := h.hPS
  rcases h.kind j hj hc with ⟨a1, e⟩ | ⟨a1, a2, hz, e⟩ | ⟨a1, a2, hb, e⟩ <;> rcases h.kind m hm hc with ⟨a1', e'⟩ | ⟨a1', a2', hz', e'⟩ | ⟨a1', a2', hb', e'⟩ <;> rw [e, e'] <;> simp only
  · right; omega
  · left; have := (h.z _ (List.getElem_mem hz')).1; omega
  · left; have := (h.b _ (List.getElem_mem hb')).1; omega
  · left; have := (h.z _ (List.getElem_mem hz)).1; omega
  · left
    intro he
    have := (List.getElem_inj h.zn).1 he
    omega
  · left
    obtain ⟨_, cs, hcs⟩ := h.z _ (List.getElem_mem hz)
    obtain ⟨_, cs', hcs'⟩ := h.b _ (List.getElem_mem hb')
    exact hcs.ne hcs' (by decide)
  · left; have := (h.b _ (List.getElem_mem hb)).1; omega
  · left
    obtain ⟨_, cs, hcs⟩ := h.b _ (List.getElem_mem hb)
    obtain ⟨_, cs', hcs'⟩ := h.z _ (List.getElem_mem hz')
    exact hcs.ne hcs' (by decide)
  · by_cases hq : (j - cap - 16) / 16 = (m - cap - 16) / 16
    · right; omega
    · left
      intro he
      exact hq ((List.getElem_inj h.bn).1 he)

theorem Filled.turn {P o len off k : Nat} {g : Nat → Int} {w w' : World} (h : Filled P o len off k g w w') : Turn (· = P) w w' :=
  ⟨h.below.os, h.below.tape, h.below.output, by rw [h.size]; exact Nat.le_refl _, fun k _ hk => h.blk k hk⟩

/-- Bucket m filled. -/
theorem Full.filled (h : Full A S P n cap c nx zl bl T w) (m : Nat) (hm : m < n + c) (hc : n + c ≤ 47) {len off : Nat} {g : Nat → Int} {w' : World} (hF : Filled (loc P cap zl bl m).1 (loc P cap zl bl m).2 len off 8 g w w') :
    Full A S P n cap c nx zl bl (fun j q => if j = m then (if off + q < len then g (off + q) else T m q) else T j q) w' := by
  obtain ⟨cs0, t0, hb0, ht0⟩ := h.typ m hm hc
  have hO : OnlyTypes (· = (loc P cap zl bl m).1) w [50, 62] := by rintro k rfl; exact ⟨cs0, t0, hb0, ht0⟩
  have keep : ∀ k cs t, IsBlk w k cs t → ∃ cs', IsBlk w' k cs' t := by
    intro k cs t hk
    by_cases e : k = (loc P cap zl bl m).1
    · subst e; exact hF.typ cs t hk
    · exact ⟨cs, hk.same (hF.blk k e)⟩
  refine ⟨h.arr.turn hF.turn (hO.spares (by decide)), h.hAP, h.hPS, h.blkS.turn hF.turn (hO.spares (ts' := [51]) (by decide) _ _ _ h.blkS (by decide)), ?_, h.zn, h.bn, ?_, ?_, ?_, ?_⟩
  · obtain ⟨cs, hP⟩ := h.blkP; exact keep _ _ _ hP
  · intro z hz; obtain ⟨h1, cs, h2⟩ := h.z z hz; exact ⟨h1, keep _ _ _ h2⟩
  · intro b hb; obtain ⟨h1, cs, h2⟩ := h.b b hb; exact ⟨h1, keep _ _ _ h2⟩
  · intro j hj q hq
    by_cases e : j = m
    · subst e
      rw [hF.here q hq, if_pos rfl]
      by_cases hin : off + q < len
      · rw [if_pos ⟨hq, hin⟩, if_pos hin]
      · rw [if_neg (by omega), if_neg hin]; exact h.top j hj q hq
    · rw [if_neg e, hF.other _ _ (by rcases h.apart j m hj hm hc e with x | x | x; exact Or.inl x; right; left; omega; right; right; omega)]
      exact h.top j hj q hq
  · intro j hj i; rw [hF.frz]; exact h.frz j hj i

theorem Full.quiet (h : Full A S P n cap c nx zl bl T w) (hc : n + c ≤ 47) {w' : World} (t : Turn (fun _ => False) w w') : Full A S P n cap c nx zl bl T w' := by
  have lt : ∀ j, j < n + c → (loc P cap zl bl j).1 < w.heap.size := fun j hj => by obtain ⟨cs, t, hb, _⟩ := h.typ j hj hc; exact hb.lt
  refine ⟨h.arr.turn t (fun _ _ _ _ _ x => x), h.hAP, h.hPS, h.blkS.turn t (fun x => x), ?_, h.zn, h.bn, ?_, ?_, ?_, ?_⟩
  · obtain ⟨cs, hP⟩ := h.blkP; exact ⟨cs, hP.turn t (fun x => x)⟩
  · intro z hz; obtain ⟨h1, cs, h2⟩ := h.z z hz; exact ⟨h1, cs, h2.turn t (fun x => x)⟩
  · intro b hb; obtain ⟨h1, cs, h2⟩ := h.b b hb; exact ⟨h1, cs, h2.turn t (fun x => x)⟩
  · intro j hj q hq; rw [t.cell (lt j hj) (fun x => x)]; exact h.top j hj q hq
  · intro j hj i; rw [t.frozen (lt j hj) (fun x => x)]; exact h.frz j hj i
end
end Go.Proofs.Ybulkdety
