import Derived.Test.YbulkdetyC8
namespace Go.Proofs.Ybulkdety
open Go.RowKit Go.Lib
set_option linter.unusedVariables false

theorem info58 : (Yba.prog.info? 58).map (fun i => (i.zero, i.size, i.bytes)) = some (some (.pointer none), 1, 8) := by kernel_rfl
theorem info59 : (Yba.prog.info? 59).map (fun i => (i.zero, i.size, i.bytes)) = some (some (.slice none 0 0), 1, 24) := by kernel_rfl

set_option maxHeartbeats 400000 in
theorem growp_nil (n : Nat) (h1 : 1 ≤ n) (h2 : n ≤ 1024) (w : World) :
    Calls Yba.prog 25 #[.slice none 0 0, .int .i64 n] w fun e w' => ∃ cap U, n ≤ cap ∧ cap ≤ 9223372036854775807 ∧ e = .returned (.slice (some ⟨U, 0, none⟩) 0 cap) ∧ w.heap.size ≤ U ∧ w'.ownsRow 0 58 1 (.slice (some ⟨U, 0, none⟩) 0 cap) 0 [] ∧ Turn (fun _ => False) w w' := by
  obtain ⟨i0, hi, hz0, hz1, hz2⟩ := info_parts info58
  have hrz : ∀ ty, (Builtin.append_ #[59, 3] ty #[.slice none 0 0, .int .i64 n]).run Yba.prog w = _ := fun ty =>
    run_append_nil_zeros w 59 3 ty 58 i0 _ .i64 .i64 Yba.underlying59 Yba.underlying3 hi hz0 n (by omega) (by omega) (by omega) (by rw [hz2]; omega)
  have hge := grownCap_ge w n 0 58
  have hle := grownCap_le_maxLen w n 0 58 (by unfold maxLen; omega)
  generalize grownCap w n 0 58 = G at hrz hge hle
  have hle' : G ≤ 9223372036854775807 := by unfold maxLen at hle; omega
  have hown : (w.drew.alloc (.cells (Builtin.zeroCells (Value.pointer none).cells n ++ Builtin.zeroCells (Value.pointer none).cells (G - n)) 58)).ownsRow 0 58 1 (.slice (some ⟨w.heap.size, 0, none⟩) 0 G) 0 [] :=
    World.ownsRow_made w.drew _ G (Nat.zero_le _) hle (by rw [Array.size_append, zeroCells_size, zeroCells_size]; simp [Value.cells]; omega)
  have HP : Hid (∃ cap U, n ≤ cap ∧ cap ≤ 9223372036854775807 ∧ Ending.returned (.slice (some ⟨w.heap.size, 0, none⟩) 0 G) = .returned (.slice (some ⟨U, 0, none⟩) 0 cap) ∧ w.heap.size ≤ U ∧ (w.drew.alloc (.cells (Builtin.zeroCells (Value.pointer none).cells n ++ Builtin.zeroCells (Value.pointer none).cells (G - n)) 58)).ownsRow 0 58 1 (.slice (some ⟨U, 0, none⟩) 0 cap) 0 [] ∧
      Turn (fun _ => False) w (w.drew.alloc (.cells (Builtin.zeroCells (Value.pointer none).cells n ++ Builtin.zeroCells (Value.pointer none).cells (G - n)) 58))) := ⟨G, _, hge, hle', rfl, Nat.le_refl _, hown, (Turn.refl _ _).drew.alloc _⟩
  clear hown hle hz0 hz1 hz2 hi
  go_enter Yba.func25, Yba.ntmps25
  go_wp2_with (at_builtin; refine Lib.wpList_append_run _ rfl _ _ _ _ rfl _ _ rfl rfl _ _ (hrz _) ?_)
  go_ret
  exact HP.out

theorem growp_one (w : World) :
    Calls Yba.prog 25 #[.slice none 0 0, .int .i64 1] w fun e w' => ∃ cap U, 1 ≤ cap ∧ cap ≤ 9223372036854775807 ∧ e = .returned (.slice (some ⟨U, 0, none⟩) 0 cap) ∧ w.heap.size ≤ U ∧ w'.ownsRow 0 58 1 (.slice (some ⟨U, 0, none⟩) 0 cap) 0 [] ∧ Turn (fun _ => False) w w' := growp_nil 1 (by decide) (by decide) w
theorem growp_two (w : World) :
    Calls Yba.prog 25 #[.slice none 0 0, .int .i64 2] w fun e w' => ∃ cap U, 2 ≤ cap ∧ cap ≤ 9223372036854775807 ∧ e = .returned (.slice (some ⟨U, 0, none⟩) 0 cap) ∧ w.heap.size ≤ U ∧ w'.ownsRow 0 58 1 (.slice (some ⟨U, 0, none⟩) 0 cap) 0 [] ∧ Turn (fun _ => False) w w' := growp_nil 2 (by decide) (by decide) w

/-- The shelves: none yet, or one shelf that holds the blocks bl. -/
def Shelf (B : Nat) (w : World) (vv : Value) (bl : List Nat) : Prop :=
  ∃ uv, w.ownsRow B 59 1 vv 1 [uv] ∧ w.ownsRow B 58 1 uv bl.length (bl.map fun b => Value.pointer (some ⟨b, 0, none⟩))

theorem owns_weaken {w : World} {base B : Nat} {e : TypeId} {size : Nat} {v : Value} {n : Nat} {xs : List Value} (h : w.ownsRow base e size v n xs) (hB : B ≤ base) : w.ownsRow B e size v n xs := by
  refine ⟨h.1, ?_⟩
  rcases h.2 with hn | ⟨g, cap, cur, hv, hb, r⟩
  · exact .inl hn
  · exact .inr ⟨g, cap, cur, hv, Nat.le_trans hB hb, r⟩
theorem owns_rebase {w : World} {base : Nat} {e : TypeId} {size : Nat} {g c : Nat} {n : Nat} {xs : List Value} (h : w.ownsRow 0 e size (.slice (some ⟨g, 0, none⟩) n c) n xs) (hg : base ≤ g) : w.ownsRow base e size (.slice (some ⟨g, 0, none⟩) n c) n xs := by
  refine ⟨h.1, ?_⟩
  rcases h.2 with ⟨hn, _⟩ | ⟨g', cap, cur, hv, hb, r⟩
  · cases hn
  · simp only [Value.slice.injEq, Option.some.injEq, Addr.mk.injEq] at hv
    obtain ⟨⟨rfl, _⟩, _, rfl⟩ := hv
    exact .inr ⟨g, c, cur, rfl, hg, r⟩

/-- The last step of a shelf's add: the block is appended to the shelf, and the shelf is stored back. -/
theorem shelf_fin (B : Nat) (W w5 : World) (X V cV b : Nat) (sv uv v' : Value) (bl : List Nat) (hX : IsBlk W X #[sv, .slice (some ⟨V, 0, none⟩) 1 cV] 57) (hV : W.ownsRow B 59 1 (.slice (some ⟨V, 0, none⟩) 1 cV) 1 [uv])
    (hU : W.ownsRow B 58 1 uv bl.length (bl.map fun b => Value.pointer (some ⟨b, 0, none⟩)))
    (hg : (W.alloc (.cells #[.pointer (some ⟨b, 0, none⟩)] 58)).grownBy w5 uv.ownBlock) (ho : w5.ownsRow B 58 1 v' (bl.length + 1) ((bl.map fun b => Value.pointer (some ⟨b, 0, none⟩)) ++ [.pointer (some ⟨b, 0, none⟩)])) :
    w5.cell? ⟨V, 0, none⟩ = some uv ∧ w5.frozen? ⟨V, 0, none⟩ = false ∧ IsBlk (w5.setCell ⟨V, 0, none⟩ v') X #[sv, .slice (some ⟨V, 0, none⟩) 1 cV] 57 ∧ Shelf B (w5.setCell ⟨V, 0, none⟩ v') (.slice (some ⟨V, 0, none⟩) 1 cV) (bl ++ [b]) ∧
      Turn (fun k => k = V ∨ uv.ownBlock = some k) W (w5.setCell ⟨V, 0, none⟩ v') := by
  have t0 : Turn (fun k => uv.ownBlock = some k) W w5 := ((Turn.refl _ _).alloc _).grown hg (fun k hk => Or.inl hk)
  have nUV : ¬ uv.ownBlock = some V := by
    intro e
    exact owns_owns_ne hU hV (by decide) V e rfl
  have nUX : ¬ uv.ownBlock = some X := owns_ne hU hX (by decide)
  have nVX : V ≠ X := fun e => owns_ne hV hX (by decide) (by rw [e]; rfl)
  have hV5 : w5.ownsRow B 59 1 (.slice (some ⟨V, 0, none⟩) 1 cV) 1 [uv] := owns_turn hV t0 (fun k hk => by simp [Value.ownBlock] at hk; subst hk; exact nUV)
  have hX5 := hX.turn t0 nUX
  refine ⟨(hV5.cellAt 0 (by omega)).trans rfl, hV5.frozenAt 0, hX5.turn (Turn.set1 w5 V 0 v') (Ne.symm nVX), ⟨v', ?_, ?_⟩, ?_⟩
  · exact (hV5.stored 0 v').1
  · have h := owns_turn ho (Turn.set1 w5 V 0 v') (fun k hk e => by
      subst e
      exact owns_owns_ne ho hV5 (by decide) k hk rfl)
    simpa using h
  · exact (t0.mono (M' := fun k => k = V ∨ uv.ownBlock = some k) (fun k _ h => Or.inr h)).setCell (p := ⟨V, 0, none⟩) (Or.inl (Or.inl rfl)) _

set_option maxHeartbeats 1000000 in
set_option maxRecDepth 100000 in
theorem shelf_first (B X b : Nat) (sv : Value) (w : World) (hB : B ≤ w.heap.size) (hX : IsBlk w X #[sv, .slice none 0 0] 57) :
    Calls Yba.prog 21 #[.pointer (some ⟨X, 1, none⟩), .pointer (some ⟨b, 0, none⟩)] w fun e w' => e = .returned (.tuple #[]) ∧ ∃ vv', IsBlk w' X #[sv, vv'] 57 ∧ Shelf B w' vv' [b] ∧ Turn (fun k => k = X) w w' := by
  have x1 : w.cell? ⟨X, 1, none⟩ = some (.slice none 0 0) := (hX.cell 1).trans rfl
  have xf := hX.frozen 1
  have hXlt := hX.lt
  obtain ⟨i0, hi, hz0, hz1, hz2⟩ := info_parts info59
  obtain ⟨j0, ji, jz0, jz1, jz2⟩ := info_parts info58
  have HL1 : 0 + 1 ≤ maxLen := by unfold maxLen; omega
  go_enter Yba.func21, Yba.ntmps21
  go_wp2_with fail
  go_quiet (fail)
  go_wp2_with (at_builtin; refine wpList_append_own _ rfl _ _ 55 rfl w.heap.size 59 i0 _ 1 24 Yba.underlying55 hi hz0 hz1 hz2 rfl (by decide) (.slice none 0 0) 0 [] rfl (World.ownsRow_nil _ _ _ _) ⟨w.heap.size, 0, none⟩ 1 1 [.slice none 0 0] rfl rfl (cell_one_new _ _ _) ?c2 HL1 (by decide) ?c5 ?c6)
  case c2 => simp [Value.oneCell']
  case c5 => simp
  intro v1 w1 hown1 hgr1 _
  obtain ⟨V, cV, rfl⟩ := owns_succ hown1
  have hVge : w.heap.size ≤ V := (hown1.lt V rfl).1
  have hown1 := owns_weaken hown1 hB
  have t1 : Turn (fun _ => False) w w1 := (((Turn.refl _ _).drewN nq).alloc _).grown hgr1 (fun k hk => by simp [Value.ownBlock] at hk)
  have hX1 := hX.turn t1 (by simp)
  have y1 : w1.cell? ⟨X, 1, none⟩ = some (.slice none 0 0) := (hX1.cell 1).trans rfl
  have yf := hX1.frozen 1
  have nV := owns_ne hown1 hX1 (by decide)
  have hVX : V ≠ X := fun e => nV (by rw [e]; rfl)
  clear x1 xf hX hgr1
  go_wp2_with fail
  have hX2 : IsBlk (w1.setCell ⟨X, 1, none⟩ (.slice (some ⟨V, 0, none⟩) 1 cV)) X #[sv, .slice (some ⟨V, 0, none⟩) 1 cV] 57 := hX1.set 1 _
  have hV2 := owns_turn hown1 (Turn.set1 w1 X 1 (.slice (some ⟨V, 0, none⟩) 1 cV)) (fun k hk e => by subst e; exact nV hk)
  have t2 : Turn (fun k => k = X) w (w1.setCell ⟨X, 1, none⟩ (.slice (some ⟨V, 0, none⟩) 1 cV)) := (t1.mono (fun _ _ h => h.elim)).then (Turn.set1 w1 X 1 _) (fun k _ e => e)
  generalize w1.setCell ⟨X, 1, none⟩ (.slice (some ⟨V, 0, none⟩) 1 cV) = W2 at *
  have x2 : W2.cell? ⟨X, 1, none⟩ = some (.slice (some ⟨V, 0, none⟩) 1 cV) := (hX2.cell 1).trans rfl
  have v2 : W2.cell? ⟨V, 0, none⟩ = some (.slice none 0 0) := (hV2.cellAt 0 (by omega)).trans rfl
  have vlt : V < W2.heap.size := (hV2.lt V rfl).2
  have HV2 : Hid (W2.ownsRow B 59 1 (.slice (some ⟨V, 0, none⟩) 1 cV) 1 [.slice none 0 0]) := hV2
  have HX2 : Hid (IsBlk W2 X #[sv, .slice (some ⟨V, 0, none⟩) 1 cV] 57) := hX2
  clear hX2 hV2 hX1 hown1 y1 yf t1 nV
  have e1 : IntKind.i64.wrap 0 = 0 := by decide
  have e2 : IntKind.i64.wrap 1 = 1 := by decide
  have v2f : ∀ w3 : World, Turn (fun _ => False) W2 w3 → w3.cell? ⟨V, 0, none⟩ = some (.slice none 0 0) ∧ w3.frozen? ⟨V, 0, none⟩ = false := fun w3 h => ⟨(h.cell vlt (by simp)).trans v2, (h.frozen vlt (by simp)).trans (HV2.out.frozenAt 0)⟩
  have HV2f : Hid (∀ w3 : World, Turn (fun _ => False) W2 w3 → w3.cell? ⟨V, 0, none⟩ = some (.slice none 0 0) ∧ w3.frozen? ⟨V, 0, none⟩ = false) := v2f
  clear v2f
  go_quiet (fail)
  go_wp2_with fail
  go_region_law (first | (go_simp; go_at_call 25; refine (growp_one _).mono ?_; rintro e w3 ⟨cU, U, hU1, hU2, rfl, hU3, hU4, hU5⟩; have t3 := ((Turn.refl (fun _ => False) W2).drewN (nq + 1)).trans hU5; obtain ⟨v3, v3f⟩ := HV2f.out w3 t3))
  all_goals
    have hX3 := HX2.out.turn t3 (by simp)
    have hV3 := owns_turn HV2.out t3 (fun _ _ h => h)
    have nVX : V ≠ X := hVX
    have hU3' : W2.heap.size ≤ U := hU3
    have nUV : U ≠ V := by omega
    have hU4 := owns_rebase (base := B) hU4 (by have := t2.size; omega)
    have hX4 := hX3.turn (Turn.set1 w3 V 0 (.slice (some ⟨U, 0, none⟩) 0 cU)) (Ne.symm nVX)
    have hV4 := (hV3.stored 0 (.slice (some ⟨U, 0, none⟩) 0 cU)).1
    have hU4' := owns_turn hU4 (Turn.set1 w3 V 0 (.slice (some ⟨U, 0, none⟩) 0 cU)) (fun k hk => by simp [Value.ownBlock] at hk; omega)
    have t4 : Turn (fun k => k = X) w (w3.setCell ⟨V, 0, none⟩ (.slice (some ⟨U, 0, none⟩) 0 cU)) := (t2.then t3 (fun _ _ h => h.elim)).then (Turn.set1 w3 V 0 _) (fun k hk e => by omega)
    have hVl : V < (w3.setCell ⟨V, 0, none⟩ (.slice (some ⟨U, 0, none⟩) 0 cU)).heap.size := (hV4.lt V rfl).2
    have w4c : (w3.setCell ⟨V, 0, none⟩ (.slice (some ⟨U, 0, none⟩) 0 cU)).cell? ⟨V, 0, none⟩ = some (.slice (some ⟨U, 0, none⟩) 0 cU) := (hV4.cellAt 0 (by omega)).trans rfl
    have hUge : w.heap.size ≤ U := by have := t2.size; omega
    generalize w3.setCell ⟨V, 0, none⟩ (.slice (some ⟨U, 0, none⟩) 0 cU) = W4 at *
    have HF : Hid (∀ (w5 : World) (v' : Value), (W4.alloc (.cells #[.pointer (some ⟨b, 0, none⟩)] 58)).grownBy w5 (some U) → w5.ownsRow B 58 1 v' (0 + 1) ([] ++ [.pointer (some ⟨b, 0, none⟩)]) → w5.cell? ⟨V, 0, none⟩ = some (.slice (some ⟨U, 0, none⟩) 0 cU) ∧ w5.frozen? ⟨V, 0, none⟩ = false ∧
        ∃ vv', IsBlk (w5.setCell ⟨V, 0, none⟩ v') X #[sv, vv'] 57 ∧ Shelf B (w5.setCell ⟨V, 0, none⟩ v') vv' [b] ∧ Turn (fun k => k = X) w (w5.setCell ⟨V, 0, none⟩ v')) := by
      intro w5 v' h1 h2
      obtain ⟨f1, f2, f3, f4, f5⟩ := shelf_fin B W4 w5 X V cV b sv (.slice (some ⟨U, 0, none⟩) 0 cU) v' [] hX4 hV4 hU4' h1 h2
      refine ⟨f1, f2, _, f3, f4, t4.then f5 (fun k hk h => ?_)⟩
      rcases h with h | h
      · omega
      · simp [Value.ownBlock] at h; omega
    have HB4 : B ≤ (W4.alloc (.cells #[.pointer (some ⟨b, 0, none⟩)] 58)).heap.size := by have := t4.size; simp; omega
    have HO4 : Hid (W4.ownsRow B 58 1 (.slice (some ⟨U, 0, none⟩) 0 cU) 0 []) := hU4'
    clear hX3 hV3 hX4 hV4 hU4' t4 v3 v3f t3 hU5 hU4 hU3 hU3' HX2 HV2 t2 x2 v2 vlt e1 e2 HV2f
    go_wp2_with (at_builtin; refine wpList_append_own _ rfl _ _ 59 rfl B 58 j0 _ 1 8 Yba.underlying59 ji jz0 jz1 jz2 rfl (by decide) (.slice (some ⟨U, 0, none⟩) 0 cU) 0 [] rfl (HO4.out.alloc _) ⟨W4.heap.size, 0, none⟩ 1 1 [.pointer (some ⟨b, 0, none⟩)] rfl rfl (cell_one_new _ _ _) (by simp [Value.oneCell']) HL1 (by decide) HB4 ?_; intro v5 w5 hown5 hgr5 _; obtain ⟨U5, cU5, rfl⟩ := owns_succ hown5; obtain ⟨k1, k2, HE⟩ := HF.out w5 _ hgr5 hown5)
    go_end0
    exact ⟨rfl, HE⟩
end Go.Proofs.Ybulkdety
