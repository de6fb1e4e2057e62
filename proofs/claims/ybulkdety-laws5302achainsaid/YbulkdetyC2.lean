/- THE PLAIN LAW OF THE LINKS' TABLE: open addressing, no Go in sight. A slot holds (from, next); next = 0: free. -/
namespace Go.Proofs.Ybulkdety

/-- The home of a link from f: the upper half of its hash. -/
def hashN (f : Nat) : Nat := f * 11400714819323198485 % 18446744073709551616
def homeN (f : Nat) : Nat := hashN f / 4294967296

/-- How many of the first m slots are taken. -/
def taken (tab : Nat → Nat × Nat) : Nat → Nat
  | 0 => 0
  | m + 1 => taken tab m + (if (tab m).2 = 0 then 0 else 1)

def upd {α : Type} (f : Nat → α) (i : Nat) (x : α) (j : Nat) : α := if j = i then x else f j
theorem upd_same {α : Type} (f : Nat → α) (i : Nat) (x : α) : upd f i x i = x := by simp [upd]
theorem upd_other {α : Type} (f : Nat → α) (i : Nat) (x : α) (j : Nat) (h : j ≠ i) : upd f i x j = f j := by simp [upd, h]

theorem taken_upd_past (tab : Nat → Nat × Nat) (s : Nat) (x : Nat × Nat) (m : Nat) (h : m ≤ s) : taken (upd tab s x) m = taken tab m := by
  induction m with
  | zero => rfl
  | succ m ih => simp only [taken, ih (by omega), upd_other tab s x m (by omega)]
theorem taken_upd (tab : Nat → Nat × Nat) (s : Nat) (x : Nat × Nat) (m : Nat) (h : s < m) (h0 : (tab s).2 = 0) (hx : x.2 ≠ 0) : taken (upd tab s x) m = taken tab m + 1 := by
  induction m with
  | zero => omega
  | succ m ih =>
    by_cases e : s = m
    · subst e
      simp only [taken, taken_upd_past tab s x s (Nat.le_refl _), upd_same, h0, if_true]
      rw [if_neg hx]
    · simp only [taken, ih (by omega), upd_other tab s x m (by omega)]
      omega
theorem taken_all (tab : Nat → Nat × Nat) (m : Nat) (h : ∀ s, s < m → (tab s).2 ≠ 0) : taken tab m = m := by
  induction m with
  | zero => rfl
  | succ m ih => simp only [taken, ih (fun s hs => h s (by omega))]; rw [if_neg (h m (by omega))]
theorem taken_zero (m : Nat) : taken (fun _ => (0, 0)) m = 0 := by
  induction m with
  | zero => rfl
  | succ m ih => simp only [taken, ih]; rfl

/-- The d-th slot that is looked at from the home of f. -/
def pr (m H d : Nat) : Nat := (H + d) % m
def probe (m f d : Nat) : Nat := pr m (homeN f) d

/-- The table's law: nx f: where f's link leads to (0: it has none); c: how many links. -/
structure Tab (m : Nat) (tab : Nat → Nat × Nat) (nx : Nat → Nat) (c : Nat) : Prop where
  found : ∀ f, nx f ≠ 0 → ∃ d, d < m ∧ tab (probe m f d) = (f, nx f) ∧ ∀ e, e < d → (tab (probe m f e)).2 ≠ 0 ∧ (tab (probe m f e)).1 ≠ f
  right : ∀ s, s < m → (tab s).2 ≠ 0 → nx (tab s).1 = (tab s).2
  one : ∀ s s', s < m → s' < m → (tab s).2 ≠ 0 → (tab s').2 ≠ 0 → (tab s).1 = (tab s').1 → s = s'
  count : taken tab m = c

theorem Tab.empty (m : Nat) : Tab m (fun _ => (0, 0)) (fun _ => 0) 0 :=
  ⟨fun _ h => absurd rfl h, fun _ _ h => absurd rfl h, fun _ _ _ _ h => absurd rfl h, taken_zero m⟩

/-- Every slot is looked at from every home. -/
theorem probe_onto (m f s : Nat) (hs : s < m) : ∃ d, d < m ∧ probe m f d = s := by
  unfold probe
  generalize homeN f = H
  refine ⟨(s + m - H % m) % m, Nat.mod_lt _ (by omega), ?_⟩
  unfold pr
  have h1 : H % m < m := Nat.mod_lt _ (by omega)
  rw [Nat.add_mod, Nat.mod_mod, ← Nat.add_mod]
  have h2 : H = m * (H / m) + H % m := (Nat.div_add_mod (H) m).symm
  have h3 : H + (s + m - H % m) = s + m * (H / m + 1) := by
    rw [Nat.mul_add, Nat.mul_one]; omega
  rw [h3, Nat.add_mul_mod_self_left, Nat.mod_eq_of_lt hs]

/-- A least number. -/
theorem least_of (p : Nat → Prop) [DecidablePred p] (n : Nat) (h : p n) : ∃ d, d ≤ n ∧ p d ∧ ∀ e, e < d → ¬ p e := by
  induction n using Nat.strongRecOn with
  | _ n ih =>
    by_cases hm : ∃ e, e < n ∧ p e
    · obtain ⟨e, he, hp⟩ := hm
      obtain ⟨d, h1, h2, h3⟩ := ih e he hp
      exact ⟨d, by omega, h2, h3⟩
    · exact ⟨n, Nat.le_refl _, h, fun e he hp => hm ⟨e, he, hp⟩⟩

/-- A free slot is come to, and all ahead of it are taken. -/
theorem Tab.free {m : Nat} {tab : Nat → Nat × Nat} {nx : Nat → Nat} {c : Nat} (h : Tab m tab nx c) (hc : c < m) (f : Nat) :
    ∃ d, d < m ∧ (tab (probe m f d)).2 = 0 ∧ ∀ e, e < d → (tab (probe m f e)).2 ≠ 0 := by
  have hf : ∃ s, s < m ∧ (tab s).2 = 0 := by
    refine Classical.byContradiction fun hn => ?_
    have := taken_all tab m (fun s hs e => hn ⟨s, hs, e⟩)
    rw [h.count] at this
    omega
  obtain ⟨s, hs, h0⟩ := hf
  obtain ⟨d, hd, he⟩ := probe_onto m f s hs
  obtain ⟨d', h1, h2, h3⟩ := least_of (fun d => (tab (probe m f d)).2 = 0) d (by simpa [he] using h0)
  exact ⟨d', by omega, h2, h3⟩

/-- A link that is there is found; of one that is not, none of the taken slots ahead of the free one speaks. -/
theorem Tab.absent {m : Nat} {tab : Nat → Nat × Nat} {nx : Nat → Nat} {c : Nat} (h : Tab m tab nx c) (hm : 0 < m) (f : Nat) (hf : nx f = 0) (e : Nat) (he : (tab (probe m f e)).2 ≠ 0) : (tab (probe m f e)).1 ≠ f := by
  intro e1
  have := h.right (probe m f e) (Nat.mod_lt _ hm) he
  rw [e1, hf] at this
  exact he this.symm

theorem Tab.put {m : Nat} {tab : Nat → Nat × Nat} {nx : Nat → Nat} {c : Nat} (h : Tab m tab nx c) (hm : 0 < m) (f x d : Nat) (hf : nx f = 0) (hx : x ≠ 0) (hdm : d < m) (hd : (tab (probe m f d)).2 = 0) (hlow : ∀ e, e < d → (tab (probe m f e)).2 ≠ 0) :
    Tab m (upd tab (probe m f d) (f, x)) (upd nx f x) (c + 1) := by
  have hs : probe m f d < m := Nat.mod_lt _ hm
  have keep : ∀ s, (tab s).2 ≠ 0 → upd tab (probe m f d) (f, x) s = tab s := fun s hs => upd_other _ _ _ _ (fun e => hs (by rw [e]; exact hd))
  refine ⟨?_, ?_, ?_, ?_⟩
  · intro g hg
    by_cases e : g = f
    · subst e
      refine ⟨d, hdm, by rw [upd_same, upd_same], fun e he => ?_⟩
      rw [keep _ (hlow e he)]
      exact ⟨hlow e he, h.absent hm g hf e (hlow e he)⟩
    · rw [upd_other _ _ _ _ e] at hg ⊢
      obtain ⟨d', h1, h2, h3⟩ := h.found g hg
      refine ⟨d', h1, ?_, fun e' he' => ?_⟩
      · rw [keep _ (by rw [h2]; exact hg)]; exact h2
      · rw [keep _ (h3 e' he').1]; exact h3 e' he'
  · intro s hs' h0
    by_cases e : s = probe m f d
    · subst e
      rw [upd_same, upd_same]
    · rw [upd_other _ _ _ _ e] at h0 ⊢
      have hr := h.right s hs' h0
      rw [upd_other _ _ _ _ (fun e' => by rw [e', hf] at hr; exact h0 hr.symm)]
      exact hr
  · intro s s' h1 h2 h3 h4 h5
    by_cases e : s = probe m f d
    · by_cases e' : s' = probe m f d
      · rw [e, e']
      · exfalso
        rw [upd_other _ _ _ _ e'] at h4 h5
        rw [e, upd_same] at h5
        have hr := h.right s' h2 h4
        rw [← h5] at hr
        simp only [hf] at hr
        exact h4 hr.symm
    · by_cases e' : s' = probe m f d
      · exfalso
        rw [upd_other _ _ _ _ e] at h3 h5
        rw [e', upd_same] at h5
        have hr := h.right s h1 h3
        rw [h5] at hr
        simp only [hf] at hr
        exact h3 hr.symm
      · rw [upd_other _ _ _ _ e] at h3 h5
        rw [upd_other _ _ _ _ e'] at h4 h5
        exact h.one s s' h1 h2 h3 h4 h5
  · rw [taken_upd tab _ _ m hs hd hx, h.count]

/-- What the first i slots say. -/
def said (tab : Nat → Nat × Nat) : Nat → Nat → Nat
  | 0 => fun _ => 0
  | i + 1 => if (tab i).2 = 0 then said tab i else upd (said tab i) (tab i).1 (tab i).2

theorem said_none (tab : Nat → Nat × Nat) (i f : Nat) (h : ∀ s, s < i → (tab s).2 ≠ 0 → (tab s).1 ≠ f) : said tab i f = 0 := by
  induction i with
  | zero => rfl
  | succ i ih =>
    simp only [said]
    by_cases e : (tab i).2 = 0
    · rw [if_pos e]; exact ih (fun s hs => h s (by omega))
    · rw [if_neg e, upd_other _ _ _ _ (fun e' => h i (by omega) e e'.symm)]; exact ih (fun s hs => h s (by omega))
theorem said_some {m : Nat} {tab : Nat → Nat × Nat} {nx : Nat → Nat} {c : Nat} (h : Tab m tab nx c) (i s : Nat) (hi : i ≤ m) (hs : s < i) (h0 : (tab s).2 ≠ 0) : said tab i (tab s).1 = (tab s).2 := by
  induction i with
  | zero => omega
  | succ i ih =>
    simp only [said]
    by_cases e : (tab i).2 = 0
    · rw [if_pos e]
      by_cases e' : s = i
      · rw [e'] at h0; exact absurd e h0
      · exact ih (by omega) (by omega)
    · rw [if_neg e]
      by_cases e' : s = i
      · subst e'; rw [upd_same]
      · rw [upd_other _ _ _ _ (fun x => e' (h.one s i (by omega) (by omega) h0 e x))]
        exact ih (by omega) (by omega)
theorem said_all {m : Nat} {tab : Nat → Nat × Nat} {nx : Nat → Nat} {c : Nat} (h : Tab m tab nx c) (hm : 0 < m) : said tab m = nx := by
  funext f
  by_cases e : nx f = 0
  · rw [e]
    exact said_none tab m f (fun s hs h0 e1 => by have := h.right s hs h0; rw [e1, e] at this; exact h0 this.symm)
  · obtain ⟨d, h1, h2, _⟩ := h.found f e
    have := said_some h m (probe m f d) (Nat.le_refl _) (Nat.mod_lt _ hm) (by rw [h2]; exact e)
    rw [h2] at this
    exact this
/-- The slot that comes next holds a link that none ahead of it held. -/
theorem said_new {m : Nat} {tab : Nat → Nat × Nat} {nx : Nat → Nat} {c : Nat} (h : Tab m tab nx c) (i : Nat) (hi : i < m) (h0 : (tab i).2 ≠ 0) : said tab i (tab i).1 = 0 :=
  said_none tab i _ (fun s hs h1 e => by have := h.one s i (by omega) hi h1 h0 e; omega)
theorem taken_le (tab : Nat → Nat × Nat) (i m : Nat) (h : i ≤ m) : taken tab i ≤ taken tab m := by
  induction m with
  | zero => have : i = 0 := by omega
            subst this; exact Nat.le_refl _
  | succ m ih =>
    by_cases e : i = m + 1
    · subst e; exact Nat.le_refl _
    · have := ih (by omega); simp only [taken]; omega
end Go.Proofs.Ybulkdety
