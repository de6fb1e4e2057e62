import Derived.Test.YbulkdetyC12
namespace Go.Proofs.Ybulkdety
open Go.RowKit Go.Lib
set_option linter.unusedVariables false

/-- The links of the array, none or some. -/
def LinksOk (B : Nat) (sg : Value) (sh : Int) (c : Nat) (nx : Nat → Nat) (w : World) : Prop :=
  (c = 0 ∧ sg = .slice none 0 0 ∧ sh = 0 ∧ nx = fun _ => 0) ∨
  (1 ≤ c ∧ ∃ G F L m p tab, sg = .slice (some ⟨G, 0, none⟩) 1 1 ∧ sh = 64 ∧ B ≤ G ∧ B ≤ F ∧ B ≤ L ∧ Lk G F L m p c tab nx w)

/-- The buckets past the spares: e of them. -/
def ExtOk (B e : Nat) (xp : Value) (zl bl : List Nat) (w : World) : Prop :=
  zl.length = min e 16 ∧ bl.length = (e - 16 + 15) / 16 ∧
  ((e = 0 ∧ xp = .pointer none) ∨
   (1 ≤ e ∧ ∃ X sv vv, xp = .pointer (some ⟨X, 0, none⟩) ∧ B ≤ X ∧ IsBlk w X #[sv, vv] 57 ∧ Singles B w sv zl ∧ ((bl = [] ∧ vv = .slice none 0 0) ∨ (bl ≠ [] ∧ Shelf B w vv bl))))

/-- Blocks of these types are no blocks of M. -/
def Spares (M : Nat → Prop) (w : World) (ts : List TypeId) : Prop := ∀ k cs t, IsBlk w k cs t → t ∈ ts → ¬ M k

theorem owns_spared {M : Nat → Prop} {w : World} {base : Nat} {e : TypeId} {size : Nat} {v : Value} {n : Nat} {xs : List Value} (h : w.ownsRow base e size v n xs) {ts : List TypeId} (hM : Spares M w ts) (he : e ∈ ts) : ∀ b, v.ownBlock = some b → ¬ M b := by
  intro b hb
  rcases h.2 with ⟨rfl, _⟩ | ⟨g, cap, cur, rfl, _, hg, _⟩
  · simp [Value.ownBlock] at hb
  · simp [Value.ownBlock] at hb
    subst hb
    exact hM g cur e hg he

theorem LinksOk.turn {B : Nat} {sg : Value} {sh : Int} {c : Nat} {nx : Nat → Nat} {w w' : World} {M : Nat → Prop} (h : LinksOk B sg sh c nx w) (t : Turn M w w') (hM : Spares M w [69, 67, 74]) : LinksOk B sg sh c nx w' := by
  rcases h with h | ⟨hc, G, F, L, m, p, tab, h1, h2, h3, h4, h5, K⟩
  · exact Or.inl h
  · obtain ⟨ls, hl⟩ := K.t.blk
    exact Or.inr ⟨hc, G, F, L, m, p, tab, h1, h2, h3, h4, h5, K.g.turn t (hM _ _ _ K.g (by decide)), K.f.turn t (hM _ _ _ K.f (by decide)), K.t.turn t (hM _ _ _ hl (by decide)), K.law, K.hm, K.p3, K.p6, K.fit, K.small⟩

theorem Shelf.turn {B : Nat} {vv : Value} {bl : List Nat} {w w' : World} {M : Nat → Prop} (h : Shelf B w vv bl) (t : Turn M w w') (hM : Spares M w [57, 51, 59, 58]) : Shelf B w' vv bl := by
  obtain ⟨uv, h1, h2⟩ := h
  exact ⟨uv, owns_turn h1 t (owns_spared h1 hM (by decide)), owns_turn h2 t (owns_spared h2 hM (by decide))⟩

theorem ExtOk.turn {B e : Nat} {xp : Value} {zl bl : List Nat} {w w' : World} {M : Nat → Prop} (h : ExtOk B e xp zl bl w) (t : Turn M w w') (hM : Spares M w [57, 51, 59, 58]) : ExtOk B e xp zl bl w' := by
  obtain ⟨h1, h2, h3⟩ := h
  refine ⟨h1, h2, ?_⟩
  rcases h3 with h3 | ⟨he, X, sv, vv, k1, k2, k3, k4, k5⟩
  · exact Or.inl h3
  · refine Or.inr ⟨he, X, sv, vv, k1, k2, k3.turn t (hM _ _ _ k3 (by decide)), owns_turn k4 t (owns_spared k4 hM (by decide)), ?_⟩
    rcases k5 with k5 | ⟨k5, k6⟩
    · exact Or.inl k5
    · exact Or.inr ⟨k5, k6.turn t hM⟩

/-- The array as the law builds it: c links, e buckets past the spares. -/
structure ArrC (A S n cap c e : Nat) (nx : Nat → Nat) (zl bl : List Nat) (w : World) : Prop where
  hAS : A < S
  body : ∃ sg sh xp, IsBlk w A (hdr S n cap sg sh c xp) 37 ∧ LinksOk (S + 1) sg sh c nx w ∧ ExtOk (S + 1) e xp zl bl w

/-- Only blocks of these types turn. -/
def OnlyTypes (M : Nat → Prop) (w : World) (ts : List TypeId) : Prop := ∀ k, M k → ∃ cs t, IsBlk w k cs t ∧ t ∈ ts
theorem OnlyTypes.spares {M : Nat → Prop} {w : World} {ts ts' : List TypeId} (h : OnlyTypes M w ts) (hd : ∀ t ∈ ts', t ∉ ts) : Spares M w ts' := by
  intro k cs t hk ht hM
  obtain ⟨cs2, t2, hk2, ht2⟩ := h k hM
  exact hk.ne hk2 (fun e => hd t ht (by rw [e]; exact ht2)) rfl
theorem owns_type {w : World} {base : Nat} {e : TypeId} {size : Nat} {v : Value} {n : Nat} {xs : List Value} (h : w.ownsRow base e size v n xs) {k : Nat} (hk : v.ownBlock = some k) : ∃ cs, IsBlk w k cs e := by
  rcases h.2 with ⟨rfl, _⟩ | ⟨g, cap, cur, rfl, _, hg, _⟩
  · simp [Value.ownBlock] at hk
  · simp [Value.ownBlock] at hk
    subst hk
    exact ⟨cur, hg⟩

/-- What is no part of the array's own frame stays as it is. -/
def frameTypes : List TypeId := [37, 69, 67, 74, 57, 51, 59, 58]
def Keeps (w w' : World) : Prop := ∀ k cs t, IsBlk w k cs t → t ∉ frameTypes → w'.heap[k]? = w.heap[k]?
theorem Keeps.refl (w : World) : Keeps w w := fun _ _ _ _ _ => rfl
theorem Keeps.trans {a b c : World} (h : Keeps a b) (k : Keeps b c) : Keeps a c := fun i cs t hi ht => (k i cs t (hi.same (h i cs t hi ht)) ht).trans (h i cs t hi ht)
theorem Keeps.of_turn {M : Nat → Prop} {w w' : World} {ts : List TypeId} (t : Turn M w w') (h : OnlyTypes M w ts) (hs : ∀ x ∈ ts, x ∈ frameTypes) : Keeps w w' := by
  intro k cs t' hk ht'
  refine t.block k hk.lt (fun hM => ?_)
  obtain ⟨cs2, t2, hk2, ht2⟩ := h k hM
  exact hk.ne hk2 (fun e => ht' (by rw [e]; exact hs t2 ht2)) rfl
theorem Keeps.quiet {w w' : World} (t : Turn (fun _ => False) w w') : Keeps w w' := fun k cs t' hk _ => t.block k hk.lt (fun x => x)

/-- The new buckets: each is there and empty, no two are one. -/
structure Bk (B : Nat) (w : World) (zl bl : List Nat) : Prop where
  zn : zl.Nodup
  bn : bl.Nodup
  z : ∀ z ∈ zl, B ≤ z ∧ IsBlk w z bzero 50
  b : ∀ b ∈ bl, B ≤ b ∧ IsBlk w b b16 62
theorem Bk.turn {B : Nat} {w w' : World} {zl bl : List Nat} {M : Nat → Prop} (h : Bk B w zl bl) (t : Turn M w w') (hM : Spares M w [50, 62]) : Bk B w' zl bl :=
  ⟨h.zn, h.bn, fun z hz => ⟨(h.z z hz).1, (h.z z hz).2.turn t (hM _ _ _ (h.z z hz).2 (by decide))⟩, fun b hb => ⟨(h.b b hb).1, (h.b b hb).2.turn t (hM _ _ _ (h.b b hb).2 (by decide))⟩⟩
theorem nodup_snoc {l : List Nat} {x : Nat} (h : l.Nodup) (hx : x ∉ l) : (l ++ [x]).Nodup := by
  rw [List.nodup_append]
  refine ⟨h, by simp, ?_⟩
  intro a ha b hb e
  simp at hb
  subst hb e
  exact hx ha

/-- What the links' add may turn. -/
theorem add_any (A S n cap c e i x : Nat) (nx : Nat → Nat) (zl bl : List Nat) (w : World) (h : ArrC A S n cap c e nx zl bl w) (hk : Bk (S + 1) w zl bl) (hi : i ≤ 1000) (hx : x ≤ 1000) (hx0 : x ≠ 0) (hni : nx i = 0) (hc : c + 1 ≤ 47) (hSl : S < w.heap.size) :
    Calls Yba.prog 17 #[.pointer (some ⟨A, 3, none⟩), .int .i64 i, .int .i64 x] w fun r w' => r = .returned (.tuple #[]) ∧ ArrC A S n cap (c + 1) e (upd nx i x) zl bl w' ∧ Bk (S + 1) w' zl bl ∧ Turn (fun k => k = A ∨ S + 1 ≤ k) w w' ∧ Keeps w w' := by
  obtain ⟨hAS, sg, sh, xp, hA, hL, hE⟩ := h
  rcases hL with ⟨rfl, rfl, rfl, rfl⟩ | ⟨hc1, G, F, L, m, p, tab, rfl, rfl, h3, h4, h5, K⟩
  · have hM : OnlyTypes (fun k => k = A) w [37, 69, 67, 74] := by rintro k rfl; exact ⟨_, _, hA, by decide⟩
    refine (add_first A S n cap i x 0 rfl xp w hA hi hx hx0).mono ?_
    rintro r w' ⟨rfl, G, F, L, m, p, tab, ⟨g1, g2, g3⟩, g4, g5, g6⟩
    exact ⟨rfl, ⟨hAS, _, _, xp, g4, Or.inr ⟨by omega, G, F, L, m, p, tab, rfl, rfl, by omega, by omega, by omega, g5⟩, hE.turn g6 (hM.spares (by decide))⟩, hk.turn g6 (hM.spares (by decide)), g6.mono (fun k _ hk => Or.inl hk), Keeps.of_turn g6 hM (by decide)⟩
  · obtain ⟨ls, hl⟩ := K.t.blk
    have hM : OnlyTypes (fun k => k = A ∨ k = G ∨ k = F ∨ k = L) w [37, 69, 67, 74] := by
      rintro k (rfl | rfl | rfl | rfl)
      · exact ⟨_, _, hA, by decide⟩
      · exact ⟨_, _, K.g, by decide⟩
      · exact ⟨_, _, K.f, by decide⟩
      · exact ⟨_, _, hl, by decide⟩
    refine (add_more A S n cap G F L m p c i x xp tab nx w hA K hi hx hx0 hni hc).mono ?_
    rintro r w' ⟨rfl, L', m', p', tab', g1, g4, g5, g6⟩
    exact ⟨rfl, ⟨hAS, _, _, xp, g4, Or.inr ⟨by omega, G, F, L', m', p', tab', rfl, rfl, h3, h4, by omega, g5⟩, hE.turn g6 (hM.spares (by decide))⟩, hk.turn g6 (hM.spares (by decide)), g6.mono (fun k _ hk => by omega), Keeps.of_turn g6 hM (by decide)⟩

theorem makeExtra_any (A S n cap c e : Nat) (nx : Nat → Nat) (zl bl : List Nat) (w : World) (h : ArrC A S n cap c e nx zl bl w) (hk : Bk (S + 1) w zl bl) (he : e < 48) (hSl : S < w.heap.size) :
    Calls Yba.prog 16 #[.pointer (some ⟨A, 0, none⟩), .int .i64 e] w fun r w' => r = .returned (.tuple #[]) ∧ ∃ zl' bl', ArrC A S n cap c (e + 1) nx zl' bl' w' ∧ Bk (S + 1) w' zl' bl' ∧ Turn (fun k => k = A ∨ S + 1 ≤ k) w w' ∧ Keeps w w' := by
  obtain ⟨hAS, sg, sh, xp, hA, hL, hE⟩ := h
  obtain ⟨e1, e2, e3⟩ := hE
  rcases e3 with ⟨rfl, rfl⟩ | ⟨he1, X, sv, vv, rfl, k2, k3, k4, k5⟩
  · have hM : OnlyTypes (fun k => k = A) w [37, 57, 51, 59, 58] := by rintro k rfl; exact ⟨_, _, hA, by decide⟩
    have hz0 : zl = [] := List.eq_nil_of_length_eq_zero (by rw [e1]; rfl)
    have hb0 : bl = [] := List.eq_nil_of_length_eq_zero (by rw [e2])
    subst hz0 hb0
    refine (makeExtra_first (S + 1) A S n cap c sg sh w (by omega) hA).mono ?_
    rintro r w' ⟨rfl, X, sv', z, g1, g2, g3, g4, g5, g6, g7⟩
    refine ⟨rfl, [z], [], ⟨hAS, sg, sh, _, g3, hL.turn g7 (hM.spares (by decide)), ⟨rfl, rfl, Or.inr ⟨by omega, X, sv', _, rfl, by omega, g4, g5, Or.inl ⟨rfl, rfl⟩⟩⟩⟩, ⟨by simp, by simp, ?_, by simp⟩, g7.mono (fun k _ hk => Or.inl hk), Keeps.of_turn g7 hM (by decide)⟩
    intro z' hz'
    simp at hz'
    subst hz'
    exact ⟨by omega, g6⟩
  · by_cases h16 : e < 16
    · have hM : OnlyTypes (fun k => k = X ∨ sv.ownBlock = some k) w [37, 57, 51, 59, 58] := by
        rintro k (rfl | hk)
        · exact ⟨_, _, k3, by decide⟩
        · obtain ⟨cs, hcs⟩ := owns_type k4 hk
          exact ⟨cs, _, hcs, by decide⟩
      refine (makeExtra_single (S + 1) A S n cap c X e sg sv vv sh zl w (by omega) hA k3 k4 (by omega) h16).mono ?_
      rintro r w' ⟨rfl, sv', z, g2, g4, g5, g6, g7⟩
      have hA' : IsBlk w' A (hdr S n cap sg sh c (.pointer (some ⟨X, 0, none⟩))) 37 := hA.turn g7 (by
        rintro (rfl | hk)
        · exact hA.ne k3 (by decide) rfl
        · obtain ⟨cs, hcs⟩ := owns_type k4 hk
          exact hA.ne hcs (by decide) rfl)
      have hb0 : bl = [] := List.eq_nil_of_length_eq_zero (by rw [e2]; omega)
      have hbk := hk.turn g7 (hM.spares (by decide))
      refine ⟨rfl, zl ++ [z], bl, ⟨hAS, sg, sh, _, hA', hL.turn g7 (hM.spares (by decide)), ⟨by simp; omega, by rw [e2]; omega, Or.inr ⟨by omega, X, sv', vv, rfl, k2, g4, g5, ?_⟩⟩⟩, ⟨nodup_snoc hk.zn ?_, hk.bn, ?_, hbk.b⟩, g7.mono (fun k _ hk => ?_), Keeps.of_turn g7 hM (by decide)⟩
      · rcases k5 with k5 | ⟨k5, _⟩
        · exact Or.inl k5
        · exact absurd hb0 k5
      · intro hz
        have := (hk.z z hz).2.lt
        omega
      · intro z' hz'
        simp at hz'
        rcases hz' with hz' | rfl
        · exact hbk.z z' hz'
        · exact ⟨by omega, g6⟩
      · rcases hk with rfl | hk
        · omega
        · have := (World.ownsRow.lt k4 k hk).1; omega
    · by_cases h16' : e = 16
      · subst h16'
        have hb0 : bl = [] := List.eq_nil_of_length_eq_zero (by rw [e2])
        subst hb0
        obtain ⟨_, rfl⟩ : ([] : List Nat) = [] ∧ vv = .slice none 0 0 := by
          rcases k5 with k5 | ⟨k5, _⟩
          · exact k5
          · exact absurd rfl k5
        have hM : OnlyTypes (fun k => k = X) w [37, 57, 51, 59, 58] := by rintro k rfl; exact ⟨_, _, k3, by decide⟩
        have nS : ∀ b, sv.ownBlock = some b → ¬ b = X := by
          intro b hb e'
          subst e'
          exact owns_ne k4 k3 (by decide) hb
        refine (makeExtra_block1 (S + 1) A S n cap c X sg sv sh w (by omega) hA k3).mono ?_
        rintro r w' ⟨rfl, vv', b, g2, g4, g5, g6, g7⟩
        have hA' : IsBlk w' A (hdr S n cap sg sh c (.pointer (some ⟨X, 0, none⟩))) 37 := hA.turn g7 (hA.ne k3 (by decide))
        have hbk := hk.turn g7 (hM.spares (by decide))
        refine ⟨rfl, zl, [b], ⟨hAS, sg, sh, _, hA', hL.turn g7 (hM.spares (by decide)), ⟨by rw [e1]; rfl, rfl, Or.inr ⟨by omega, X, sv, vv', rfl, k2, g4, owns_turn k4 g7 nS, Or.inr ⟨by simp, g5⟩⟩⟩⟩, ⟨hk.zn, by simp, hbk.z, ?_⟩, g7.mono (fun k _ hk => by omega), Keeps.of_turn g7 hM (by decide)⟩
        intro b' hb'
        simp at hb'
        subst hb'
        exact ⟨by omega, g6⟩
      · by_cases h32 : e = 32
        · subst h32
          obtain ⟨b0, rfl⟩ : ∃ b0, bl = [b0] := by
            match bl, e2 with
            | [b0], _ => exact ⟨b0, rfl⟩
          have hSh : Shelf (S + 1) w vv [b0] := by
            rcases k5 with ⟨k5, _⟩ | ⟨_, k5⟩
            · cases k5
            · exact k5
          have hM : OnlyTypes (fun k => ∃ uv, w.ownsRow (S + 1) 59 1 vv 1 [uv] ∧ (vv.ownBlock = some k ∨ uv.ownBlock = some k)) w [37, 57, 51, 59, 58] := by
            obtain ⟨uv, q1, q2⟩ := hSh
            rintro k ⟨uv', q3, q4⟩
            have hu : uv' = uv := by
              obtain ⟨V, cV, rfl⟩ := owns_succ q1
              have c1 := q1.cellAt 0 (by omega)
              have c2 := q3.cellAt 0 (by omega)
              rw [c1] at c2
              simpa using c2.symm
            subst hu
            rcases q4 with q4 | q4
            · obtain ⟨cs, hcs⟩ := owns_type q1 q4
              exact ⟨cs, _, hcs, by decide⟩
            · obtain ⟨cs, hcs⟩ := owns_type q2 q4
              exact ⟨cs, _, hcs, by decide⟩
          have hM2 : ∀ k, (∃ uv, w.ownsRow (S + 1) 59 1 vv 1 [uv] ∧ (vv.ownBlock = some k ∨ uv.ownBlock = some k)) → S + 1 ≤ k ∧ ∃ cs t, IsBlk w k cs t ∧ (t = 59 ∨ t = 58) := by
            obtain ⟨uv, q1, q2⟩ := hSh
            rintro k ⟨uv', q3, q4⟩
            have hu : uv' = uv := by
              obtain ⟨V, cV, rfl⟩ := owns_succ q1
              have c1 := q1.cellAt 0 (by omega)
              have c2 := q3.cellAt 0 (by omega)
              rw [c1] at c2
              simpa using c2.symm
            subst hu
            rcases q4 with q4 | q4
            · obtain ⟨cs, hcs⟩ := owns_type q1 q4
              exact ⟨(q1.lt k q4).1, cs, _, hcs, Or.inl rfl⟩
            · obtain ⟨cs, hcs⟩ := owns_type q2 q4
              exact ⟨(q2.lt k q4).1, cs, _, hcs, Or.inr rfl⟩
          refine (makeExtra_block2 (S + 1) A S n cap c X b0 sg sv vv sh w (by omega) hA k3 hSh).mono ?_
          rintro r w' ⟨rfl, b, g2, g4, g5, g6, g7⟩
          have hA' : IsBlk w' A (hdr S n cap sg sh c (.pointer (some ⟨X, 0, none⟩))) 37 := hA.turn g7 (fun hk => by have := (hM2 A hk).1; omega)
          have nS : ∀ b, sv.ownBlock = some b → ¬ (∃ uv, w.ownsRow (S + 1) 59 1 vv 1 [uv] ∧ (vv.ownBlock = some b ∨ uv.ownBlock = some b)) := by
            intro b' hb' hk'
            obtain ⟨_, cs, t, hcs, ht⟩ := hM2 b' hk'
            exact owns_ne k4 hcs (by rcases ht with rfl | rfl <;> decide) hb'
          have hbk := hk.turn g7 (hM.spares (by decide))
          refine ⟨rfl, zl, [b0, b], ⟨hAS, sg, sh, _, hA', hL.turn g7 (hM.spares (by decide)), ⟨by rw [e1]; rfl, rfl, Or.inr ⟨by omega, X, sv, vv, rfl, k2, g4, owns_turn k4 g7 nS, Or.inr ⟨by simp, g5⟩⟩⟩⟩, ⟨hk.zn, nodup_snoc hk.bn ?_, hbk.z, ?_⟩, g7.mono (fun k _ hk => Or.inr (hM2 k hk).1), Keeps.of_turn g7 hM (by decide)⟩
          · intro hb
            have := (hk.b b hb).2.lt
            omega
          · intro b' hb'
            simp at hb'
            rcases hb' with rfl | rfl
            · exact hbk.b b' (by simp)
            · exact ⟨by omega, g6⟩
        · refine (makeExtra_none A S n cap c X e sg sh w hA (by omega) he h32).mono ?_
          rintro r w' ⟨rfl, rfl⟩
          refine ⟨rfl, zl, bl, ⟨hAS, sg, sh, _, hA, hL, ⟨by omega, by omega, Or.inr ⟨by omega, X, sv, vv, rfl, k2, k3, k4, k5⟩⟩⟩, hk, Turn.refl _ _, Keeps.refl _⟩
end Go.Proofs.Ybulkdety
