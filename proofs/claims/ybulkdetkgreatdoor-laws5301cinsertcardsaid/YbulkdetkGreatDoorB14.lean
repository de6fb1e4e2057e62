/- A first grant; the requests of one who holds. -/
import Derived.Test.YbulkdetkGreatDoorB13
namespace Go.Proofs.YbulkdetkGreatDoor
open Go.RowKit
set_option linter.unusedVariables false
set_option linter.unusedSimpArgs false

set_option maxRecDepth 100000 in
set_option maxHeartbeats 4000000 in
theorem ga_free_first (N X A L M cM T : Nat) (s : Int) (m : Nat) (g : Bool) (w : World) (hB : Base N X A L M cM T s w) (hF : Free L T w) (hm : m < 5) (hcov : (!false && covb 0 m && (false || !g)) = false) :
    Calls Ybaz.prog 13 #[.pointer (some ⟨A, 0, none⟩), .pointer (some ⟨T, 0, none⟩), (.agg #[.string { data := #[116] }, .bool false, .int .u8 0, .int .i64 0, .string { data := #[] }]), .agg #[.int .u8 m, .bool g, .bool false]] w fun e w' => (∃ qv, e = .returned (.tuple #[qv, .agg #[.int .u8 0, .bool false, .bool false], .bool true])) ∧ Base N X A L M cM T s w' ∧ (∃ Q G cap b clk v, HeldBy N X L T m g Q G cap b clk v w') ∧ Turn (fun k => k = L ∨ k = T) w w' := by
  have hW : Grew w (((w.alloc (.cells #[.string { data := #[116] }, .bool false, .int .u8 0, .int .i64 0, .string { data := #[] }] 69)).alloc (.cells #[.int .u8 m, .bool g, .bool false] 73)).alloc (.cells #[.int .u8 0, .bool false, .bool false] 73)) := (((Turn.refl _ w).alloc _).alloc _).alloc _
  have b1 : IsBlk (((w.alloc (.cells #[.string { data := #[116] }, .bool false, .int .u8 0, .int .i64 0, .string { data := #[] }] 69)).alloc (.cells #[.int .u8 m, .bool g, .bool false] 73)).alloc (.cells #[.int .u8 0, .bool false, .bool false] 73)) w.heap.size #[.string { data := #[116] }, .bool false, .int .u8 0, .int .i64 0, .string { data := #[] }] 69 := (IsBlk.new w _ 69).turn (((Turn.refl (fun _ => False) _).alloc _).alloc _) (by simp)
  have b2 : IsBlk (((w.alloc (.cells #[.string { data := #[116] }, .bool false, .int .u8 0, .int .i64 0, .string { data := #[] }] 69)).alloc (.cells #[.int .u8 m, .bool g, .bool false] 73)).alloc (.cells #[.int .u8 0, .bool false, .bool false] 73)) (w.heap.size + 1) #[.int .u8 m, .bool g, .bool false] 73 := by
    have := (IsBlk.new (w.alloc (.cells #[.string { data := #[116] }, .bool false, .int .u8 0, .int .i64 0, .string { data := #[] }] 69)) #[.int .u8 m, .bool g, .bool false] 73).turn ((Turn.refl (fun _ => False) _).alloc (.cells #[.int .u8 0, .bool false, .bool false] 73)) (by simp)
    simpa using this
  have b3 : IsBlk (((w.alloc (.cells #[.string { data := #[116] }, .bool false, .int .u8 0, .int .i64 0, .string { data := #[] }] 69)).alloc (.cells #[.int .u8 m, .bool g, .bool false] 73)).alloc (.cells #[.int .u8 0, .bool false, .bool false] 73)) (w.heap.size + 1 + 1) #[.int .u8 0, .bool false, .bool false] 73 := by
    have := IsBlk.new ((w.alloc (.cells #[.string { data := #[116] }, .bool false, .int .u8 0, .int .i64 0, .string { data := #[] }] 69)).alloc (.cells #[.int .u8 m, .bool g, .bool false] 73)) #[.int .u8 0, .bool false, .bool false] 73
    simpa using this
  have a2 := (hB.a.turn hW (by simp)).c2
  have hAlt := hB.a.lt
  obtain ⟨clk, hclk, htx⟩ := id hF
  have hl : (Instr.lookup 78 (.map (some L)) (.agg #[.string { data := #[116] }, .bool false, .int .u8 0, .int .i64 0, .string { data := #[] }]) false).run Ybaz.prog (((w.alloc (.cells #[.string { data := #[116] }, .bool false, .int .u8 0, .int .i64 0, .string { data := #[] }] 69)).alloc (.cells #[.int .u8 m, .bool g, .bool false] 73)).alloc (.cells #[.int .u8 0, .bool false, .bool false] 73)).drew = _ := lookup_none (hclk.turn hW.drew (by simp))
  go_enter Ybaz.func13, Ybaz.ntmps13
  go_wp2_with fail
  go_region
  have hW := hW.drew
  have b1 := b1.turn (Turn.refl (fun _ => False) _).drew (by simp)
  have b2 := b2.turn (Turn.refl (fun _ => False) _).drew (by simp)
  have b3 := b3.turn (Turn.refl (fun _ => False) _).drew (by simp)
  clear a2 hl
  generalize (((w.alloc (.cells #[.string { data := #[116] }, .bool false, .int .u8 0, .int .i64 0, .string { data := #[] }] 69)).alloc (.cells #[.int .u8 m, .bool g, .bool false] 73)).alloc (.cells #[.int .u8 0, .bool false, .bool false] 73)).drew = W at *
  have x0 := b1.c0
  have x1 := b1.c1
  have x2 := b1.c2
  have x3 := b1.c3
  have x4 : W.cell? ⟨w.heap.size, 4, none⟩ = some (.string { data := #[] }) := (b1.cell 4).trans rfl
  go_wp2_with fail
  refine (held_nil A T _ (hB.cov.grew hW)).mono ?_
  rintro e w2 ⟨rfl, h2⟩
  have hW2 := hW.trans h2
  have b12 := b1.turn h2 (by simp)
  have b22 := b2.turn h2 (by simp)
  have b32 := b3.turn h2 (by simp)
  have n4 := IsBlk.new w2 #[.int .u8 0, .bool false, .bool false] 73
  have t4 : Grew w2 (w2.alloc (.cells #[.int .u8 0, .bool false, .bool false] 73)) := (Turn.refl _ _).alloc _
  have hX4 : Bx (w2.alloc (.cells #[.int .u8 0, .bool false, .bool false] 73)) w.heap.size w2.heap.size m g false 0 false := ⟨b12.turn t4 (by simp), b22.turn t4 (by simp), b32.turn t4 (by simp), n4⟩
  have p0 := hX4.want.c0
  have p1 := hX4.want.c1
  have p2 := hX4.want.c2
  go_wp2_with fail
  refine (covers_any 0 m false g false false (by decide) hm _ (hB.cov.grew (hW2.trans t4))).mono ?_
  rintro e w5 ⟨rfl, h5⟩
  have hX := hX4.grew h5
  have hg5 := (hW2.trans t4).trans h5
  clear hX4 n4 b1 b2 b3 b12 b22 b32 x0 x1 x2 x3 x4 h2 h5 t4
  rw [hcov]
  go_wp2_with fail
  have x0 := hX.tg.c0
  have x1 := hX.tg.c1
  have x2 := hX.tg.c2
  have x3 := hX.tg.c3
  have x4 := hX.tg4
  have p0 := hX.want.c0
  have p1 := hX.want.c1
  have p2 := hX.want.c2
  refine region_tail 7 (by kernel_rfl) (by kernel_rfl) ?_
  simp only [List.take_succ_cons, List.take_zero, List.drop_succ_cons, List.drop_zero]
  iterate 6 still_step
  still_call (waitingAt_nil _)
  refine wpStill_nil ?_
  go_wp2_with fail
  refine (blocks_nil A T m g false _).mono ?_
  rintro e w6 ⟨rfl, h6⟩
  have h6 : Grew w5 w6 := (Turn.refl (fun _ => False) w5).drew.trans h6
  have hg6 := hg5.trans h6
  have hX6 := hX.grew h6
  clear hX h6 hg5 x0 x1 x2 x3 x4 p0 p1 p2
  have x0 := hX6.tg.c0
  have x1 := hX6.tg.c1
  have x2 := hX6.tg.c2
  have x3 := hX6.tg.c3
  have x4 := hX6.tg4
  have p0 := hX6.want.c0
  have p1 := hX6.want.c1
  have p2 := hX6.want.c2
  go_wp2_with fail
  have hB6 := hB.grew hg6
  have hclk6 := hclk.turn hg6 (by simp)
  refine (queue_new A L M clk s _ hB6.a hclk6).mono ?_
  rintro e w7 ⟨Q, rfl, hQ1, hQ2, hM7, t7⟩
  have hQ1 := Nat.le_trans hg6.size hQ1
  have hLlt := hclk.lt
  have hX7 := hX6.turn t7 (hclk6.ne hX6.tg).symm (hclk6.ne hX6.want).symm (hclk6.ne hX6.res).symm (hclk6.ne hX6.bef).symm
  have hB7 := hB6.turn t7 (hclk6.ne hB6.a).symm (Ne.symm hB.lm) (by have := hB.ol.1; have := hB.n0; omega)
  have tt7 : Turn (· = L) w w7 := (Turn.of_grew (M := (· = L)) hg6).trans t7
  have htx7 := htx.turn tt7 (by obtain ⟨cs, hb, _⟩ := htx; exact (hclk.ne hb).symm)
  have x0 := hX7.tg.c0
  have x1 := hX7.tg.c1
  have x2 := hX7.tg.c2
  have x3 := hX7.tg.c3
  have x4 := hX7.tg4
  have p0 := hX7.want.c0
  have p1 := hX7.want.c1
  have p2 := hX7.want.c2
  go_wp2_with fail
  refine (grant_first Q T m g _ hQ2 htx7).mono ?_
  rintro e w8 ⟨rfl, G, cap, v, hG8, hH8, hT8, hO8, hv8, t8⟩
  have hNn := hB.n
  have hXx := hB.x
  have hXe := hB.ot.2
  have hTlt := htx.lt
  have hsz7 := tt7.size
  have nT : ∀ {b : Nat} {cs : Array Value} {t : TypeId}, IsBlk w7 b cs t → t ≠ 65 → t ≠ 99 → ¬ (b = Q ∨ b = T) := by
    intro b cs t hb h1 h2 h
    rcases h with h | h
    · exact IsBlk.ne hb hQ2 h2 h
    · obtain ⟨cs', hb', _⟩ := htx7
      exact IsBlk.ne hb hb' h1 h
  have nM : ∀ {b k : Nat} {es : Array MapEntry}, IsMap w7 b es k → ¬ (b = Q ∨ b = T) := by
    intro b k es hb h
    rcases h with h | h
    · exact hb.ne hQ2 h
    · obtain ⟨cs', hb', _⟩ := htx7
      exact hb.ne hb' h
  have hX8 := hX7.turn t8 (nT hX7.tg (by decide) (by decide)) (nT hX7.want (by decide) (by decide)) (nT hX7.res (by decide) (by decide)) (nT hX7.bef (by decide) (by decide))
  have hB8 := hB7.turn t8 (nT hB7.a (by decide) (by decide)) (nM hB7.tm) (by have := hB.n0; have := hB.ot.1; omega)
  have hM8 := hM7.turn t8 (nM hM7)
  have tt8 : Turn (fun k => k = L ∨ k = T) w w8 := (tt7.mono (M' := fun k => k = L ∨ k = T) (fun k _ e => Or.inl e)).then t8 (fun k hk e => by rcases e with e | e; omega; exact Or.inr e)
  have x0 := hX8.tg.c0
  have x1 := hX8.tg.c1
  have x2 := hX8.tg.c2
  have x3 := hX8.tg.c3
  have x4 := hX8.tg4
  have p0 := hX8.want.c0
  have p1 := hX8.want.c1
  have p2 := hX8.want.c2
  go_wp2_with fail
  refine (tidy_has A Q G cap _ _ hH8.q).mono ?_
  rintro e w9 ⟨rfl, h9⟩
  have hX := hX8.grew h9
  have hK9 : HeldBy N X L T m g Q G cap clk (clk + 1) v w9 := ⟨hM8.turn h9 (by simp), hH8.grew h9, hT8.grew h9, hO8.grew h9, ⟨by omega, by omega⟩, ⟨by omega, by omega⟩⟩
  have hB9 := hB8.grew h9
  have tt9 := tt8.grew h9
  go_wp2_with fail
  have e0 := hX.bef.c0
  have e1 := hX.bef.c1
  have e2 := hX.bef.c2
  have r0 := hX.res.c0
  have r1 := hX.res.c1
  have r2 := hX.res.c2
  have f0 := hX.res.frozen 0
  have f1 := hX.res.frozen 1
  have f2 := hX.res.frozen 2
  have hE := hX.fin
  go_region
  all_goals
    go_wp2_with fail
    have z0 := hE.1.c0
    have z1 := hE.1.c1
    have z2 := hE.1.c2
    simp only [show ((0 : Nat) : Int) = 0 from rfl] at z0 z1 z2 hE
    refine bodyPost_ret ?_ rfl (by
      have hlt := hB.a.lt
      have hMlt := hB.tm.lt
      exact ⟨⟨.pointer (some ⟨Q, 0, none⟩), rfl⟩, hB9.turn hE.2 (by omega) (by omega) (by omega), ⟨Q, G, cap, clk, clk + 1, v, hK9.turn (t := 73) hE.2 (fun j hj => by subst hj; exact ⟨_, hX.res⟩) (by decide) (by decide) (by decide) (by decide)⟩, tt9.then hE.2 (fun k hk e => by omega)⟩)
    simp [results, Ybaz.f13, go_sem, z0, z1, z2]

set_option maxRecDepth 100000 in
set_option maxHeartbeats 4000000 in
theorem ga_held_cov (N X A L M cM T Y Q G cap b clk : Nat) (v : Value) (s : Int) (m : Nat) (g i : Bool) (bm0 bm : Nat) (bg0 bg bb : Bool) (w : World) (hB : Base N X A L M cM T s w) (hH : HeldBy N X L T bm0 bg0 Q G cap b clk v w) (hP : PEq w T Y bb) (em : (if bb then bm0 else 0) = bm) (eg : (bb && bg0) = bg) (hbm : bm < 5) (hm : m < 5) (hcov : (!i && covb bm m && (bg || !g)) = true) :
    Calls Ybaz.prog 13 #[.pointer (some ⟨A, 0, none⟩), .pointer (some ⟨Y, 0, none⟩), (.agg #[.string { data := #[116] }, .bool false, .int .u8 0, .int .i64 0, .string { data := #[] }]), .agg #[.int .u8 m, .bool g, .bool i]] w fun e w' => (∃ qv, e = .returned (.tuple #[qv, .agg #[.int .u8 bm, .bool bg, .bool false], .bool true])) ∧ Grew w w' := by
  have hem := em
  clear em
  have hW : Grew w (((w.alloc (.cells #[.string { data := #[116] }, .bool false, .int .u8 0, .int .i64 0, .string { data := #[] }] 69)).alloc (.cells #[.int .u8 m, .bool g, .bool i] 73)).alloc (.cells #[.int .u8 0, .bool false, .bool false] 73)) := (((Turn.refl _ w).alloc _).alloc _).alloc _
  have b1 : IsBlk (((w.alloc (.cells #[.string { data := #[116] }, .bool false, .int .u8 0, .int .i64 0, .string { data := #[] }] 69)).alloc (.cells #[.int .u8 m, .bool g, .bool i] 73)).alloc (.cells #[.int .u8 0, .bool false, .bool false] 73)) w.heap.size #[.string { data := #[116] }, .bool false, .int .u8 0, .int .i64 0, .string { data := #[] }] 69 := (IsBlk.new w _ 69).turn (((Turn.refl (fun _ => False) _).alloc _).alloc _) (by simp)
  have b2 : IsBlk (((w.alloc (.cells #[.string { data := #[116] }, .bool false, .int .u8 0, .int .i64 0, .string { data := #[] }] 69)).alloc (.cells #[.int .u8 m, .bool g, .bool i] 73)).alloc (.cells #[.int .u8 0, .bool false, .bool false] 73)) (w.heap.size + 1) #[.int .u8 m, .bool g, .bool i] 73 := by
    have := (IsBlk.new (w.alloc (.cells #[.string { data := #[116] }, .bool false, .int .u8 0, .int .i64 0, .string { data := #[] }] 69)) #[.int .u8 m, .bool g, .bool i] 73).turn ((Turn.refl (fun _ => False) _).alloc (.cells #[.int .u8 0, .bool false, .bool false] 73)) (by simp)
    simpa using this
  have b3 : IsBlk (((w.alloc (.cells #[.string { data := #[116] }, .bool false, .int .u8 0, .int .i64 0, .string { data := #[] }] 69)).alloc (.cells #[.int .u8 m, .bool g, .bool i] 73)).alloc (.cells #[.int .u8 0, .bool false, .bool false] 73)) (w.heap.size + 1 + 1) #[.int .u8 0, .bool false, .bool false] 73 := by
    have := IsBlk.new ((w.alloc (.cells #[.string { data := #[116] }, .bool false, .int .u8 0, .int .i64 0, .string { data := #[] }] 69)).alloc (.cells #[.int .u8 m, .bool g, .bool i] 73)) #[.int .u8 0, .bool false, .bool false] 73
    simpa using this
  have a2 := (hB.a.turn hW (by simp)).c2
  have hAlt := hB.a.lt
  have hl : (Instr.lookup 78 (.map (some L)) (.agg #[.string { data := #[116] }, .bool false, .int .u8 0, .int .i64 0, .string { data := #[] }]) false).run Ybaz.prog (((w.alloc (.cells #[.string { data := #[116] }, .bool false, .int .u8 0, .int .i64 0, .string { data := #[] }] 69)).alloc (.cells #[.int .u8 m, .bool g, .bool i] 73)).alloc (.cells #[.int .u8 0, .bool false, .bool false] 73)).drew = _ := lookup_one (hH.map.turn hW.drew (by simp))
  go_enter Ybaz.func13, Ybaz.ntmps13
  go_wp2_with fail
  go_region
  have hW := hW.drew
  have b1 := b1.turn (Turn.refl (fun _ => False) _).drew (by simp)
  have b2 := b2.turn (Turn.refl (fun _ => False) _).drew (by simp)
  have b3 := b3.turn (Turn.refl (fun _ => False) _).drew (by simp)
  clear a2 hl
  generalize (((w.alloc (.cells #[.string { data := #[116] }, .bool false, .int .u8 0, .int .i64 0, .string { data := #[] }] 69)).alloc (.cells #[.int .u8 m, .bool g, .bool i] 73)).alloc (.cells #[.int .u8 0, .bool false, .bool false] 73)).drew = W at *
  have x0 := b1.c0
  have x1 := b1.c1
  have x2 := b1.c2
  have x3 := b1.c3
  have x4 : W.cell? ⟨w.heap.size, 4, none⟩ = some (.string { data := #[] }) := (b1.cell 4).trans rfl
  go_wp2_with fail
  refine (held_one' A Y Q G cap T bm0 bm bg0 bb bg _ (hB.cov.grew hW) hbm hem eg (hH.hold.grew hW) (hP.grew hW)).mono ?_
  clear hem eg
  rintro e w2 ⟨rfl, h2⟩
  have hW2 := hW.trans h2
  have b12 := b1.turn h2 (by simp)
  have b22 := b2.turn h2 (by simp)
  have b32 := b3.turn h2 (by simp)
  have n4 := IsBlk.new w2 #[.int .u8 bm, .bool bg, .bool false] 73
  have t4 : Grew w2 (w2.alloc (.cells #[.int .u8 bm, .bool bg, .bool false] 73)) := (Turn.refl _ _).alloc _
  have hX4 : Bx (w2.alloc (.cells #[.int .u8 bm, .bool bg, .bool false] 73)) w.heap.size w2.heap.size m g i bm bg := ⟨b12.turn t4 (by simp), b22.turn t4 (by simp), b32.turn t4 (by simp), n4⟩
  have p0 := hX4.want.c0
  have p1 := hX4.want.c1
  have p2 := hX4.want.c2
  go_wp2_with fail
  refine (covers_any bm m bg g false i hbm hm _ (hB.cov.grew (hW2.trans t4))).mono ?_
  rintro e w5 ⟨rfl, h5⟩
  have hX := hX4.grew h5
  have hg5 := (hW2.trans t4).trans h5
  clear hX4 n4 b1 b2 b3 b12 b22 b32 x0 x1 x2 x3 x4 h2 h5 t4
  rw [hcov]
  go_wp2_with fail
  have e0 := hX.bef.c0
  have e1 := hX.bef.c1
  have e2 := hX.bef.c2
  have r0 := hX.res.c0
  have r1 := hX.res.c1
  have r2 := hX.res.c2
  have f0 := hX.res.frozen 0
  have f1 := hX.res.frozen 1
  have f2 := hX.res.frozen 2
  have hE := hX.fin
  go_region
  all_goals
    go_wp2_with fail
    have z0 := hE.1.c0
    have z1 := hE.1.c1
    have z2 := hE.1.c2
    refine bodyPost_ret ?_ rfl ⟨⟨.pointer (some ⟨Q, 0, none⟩), rfl⟩, hg5.then hE.2 (fun k hk e => by omega)⟩
    simp [results, Ybaz.f13, go_sem, z0, z1, z2]

set_option maxRecDepth 100000 in
set_option maxHeartbeats 4000000 in
theorem ga_held_block (N X A L M cM T Y Q G cap b clk : Nat) (v : Value) (s : Int) (m : Nat) (g : Bool) (bm0 bm : Nat) (bg0 bg bb : Bool) (w : World) (hB : Base N X A L M cM T s w) (hH : HeldBy N X L T bm0 bg0 Q G cap b clk v w) (hP : PEq w T Y bb) (em : (if bb then bm0 else 0) = bm) (eg : (bb && bg0) = bg) (hbm : bm < 5) (hm : m < 5)
    (hblk : ∀ w1, Grew w w1 → Calls Ybaz.prog 18 #[.pointer (some ⟨A, 0, none⟩), (.agg #[.string { data := #[116] }, .bool false, .int .u8 0, .int .i64 0, .string { data := #[] }]), .pointer (some ⟨Q, 0, none⟩), .pointer (some ⟨Y, 0, none⟩), .agg #[.int .u8 m, .bool g, .bool true], .int .i64 0] w1 fun e w' => e = .returned (.bool true) ∧ Grew w1 w') :
    Calls Ybaz.prog 13 #[.pointer (some ⟨A, 0, none⟩), .pointer (some ⟨Y, 0, none⟩), (.agg #[.string { data := #[116] }, .bool false, .int .u8 0, .int .i64 0, .string { data := #[] }]), .agg #[.int .u8 m, .bool g, .bool true]] w fun e w' => (∃ qv, e = .returned (.tuple #[qv, .agg #[.int .u8 bm, .bool bg, .bool false], .bool false])) ∧ Grew w w' := by
  have hcov : (!true && covb bm m && (bg || !g)) = false := by simp
  have hem := em
  clear em
  have hW : Grew w (((w.alloc (.cells #[.string { data := #[116] }, .bool false, .int .u8 0, .int .i64 0, .string { data := #[] }] 69)).alloc (.cells #[.int .u8 m, .bool g, .bool true] 73)).alloc (.cells #[.int .u8 0, .bool false, .bool false] 73)) := (((Turn.refl _ w).alloc _).alloc _).alloc _
  have b1 : IsBlk (((w.alloc (.cells #[.string { data := #[116] }, .bool false, .int .u8 0, .int .i64 0, .string { data := #[] }] 69)).alloc (.cells #[.int .u8 m, .bool g, .bool true] 73)).alloc (.cells #[.int .u8 0, .bool false, .bool false] 73)) w.heap.size #[.string { data := #[116] }, .bool false, .int .u8 0, .int .i64 0, .string { data := #[] }] 69 := (IsBlk.new w _ 69).turn (((Turn.refl (fun _ => False) _).alloc _).alloc _) (by simp)
  have b2 : IsBlk (((w.alloc (.cells #[.string { data := #[116] }, .bool false, .int .u8 0, .int .i64 0, .string { data := #[] }] 69)).alloc (.cells #[.int .u8 m, .bool g, .bool true] 73)).alloc (.cells #[.int .u8 0, .bool false, .bool false] 73)) (w.heap.size + 1) #[.int .u8 m, .bool g, .bool true] 73 := by
    have := (IsBlk.new (w.alloc (.cells #[.string { data := #[116] }, .bool false, .int .u8 0, .int .i64 0, .string { data := #[] }] 69)) #[.int .u8 m, .bool g, .bool true] 73).turn ((Turn.refl (fun _ => False) _).alloc (.cells #[.int .u8 0, .bool false, .bool false] 73)) (by simp)
    simpa using this
  have b3 : IsBlk (((w.alloc (.cells #[.string { data := #[116] }, .bool false, .int .u8 0, .int .i64 0, .string { data := #[] }] 69)).alloc (.cells #[.int .u8 m, .bool g, .bool true] 73)).alloc (.cells #[.int .u8 0, .bool false, .bool false] 73)) (w.heap.size + 1 + 1) #[.int .u8 0, .bool false, .bool false] 73 := by
    have := IsBlk.new ((w.alloc (.cells #[.string { data := #[116] }, .bool false, .int .u8 0, .int .i64 0, .string { data := #[] }] 69)).alloc (.cells #[.int .u8 m, .bool g, .bool true] 73)) #[.int .u8 0, .bool false, .bool false] 73
    simpa using this
  have a2 := (hB.a.turn hW (by simp)).c2
  have hAlt := hB.a.lt
  have hl : (Instr.lookup 78 (.map (some L)) (.agg #[.string { data := #[116] }, .bool false, .int .u8 0, .int .i64 0, .string { data := #[] }]) false).run Ybaz.prog (((w.alloc (.cells #[.string { data := #[116] }, .bool false, .int .u8 0, .int .i64 0, .string { data := #[] }] 69)).alloc (.cells #[.int .u8 m, .bool g, .bool true] 73)).alloc (.cells #[.int .u8 0, .bool false, .bool false] 73)).drew = _ := lookup_one (hH.map.turn hW.drew (by simp))
  go_enter Ybaz.func13, Ybaz.ntmps13
  go_wp2_with fail
  go_region
  have hW := hW.drew
  have b1 := b1.turn (Turn.refl (fun _ => False) _).drew (by simp)
  have b2 := b2.turn (Turn.refl (fun _ => False) _).drew (by simp)
  have b3 := b3.turn (Turn.refl (fun _ => False) _).drew (by simp)
  clear a2 hl
  generalize (((w.alloc (.cells #[.string { data := #[116] }, .bool false, .int .u8 0, .int .i64 0, .string { data := #[] }] 69)).alloc (.cells #[.int .u8 m, .bool g, .bool true] 73)).alloc (.cells #[.int .u8 0, .bool false, .bool false] 73)).drew = W at *
  have x0 := b1.c0
  have x1 := b1.c1
  have x2 := b1.c2
  have x3 := b1.c3
  have x4 : W.cell? ⟨w.heap.size, 4, none⟩ = some (.string { data := #[] }) := (b1.cell 4).trans rfl
  go_wp2_with fail
  refine (held_one' A Y Q G cap T bm0 bm bg0 bb bg _ (hB.cov.grew hW) hbm hem eg (hH.hold.grew hW) (hP.grew hW)).mono ?_
  clear hem eg
  rintro e w2 ⟨rfl, h2⟩
  have hW2 := hW.trans h2
  have b12 := b1.turn h2 (by simp)
  have b22 := b2.turn h2 (by simp)
  have b32 := b3.turn h2 (by simp)
  have n4 := IsBlk.new w2 #[.int .u8 bm, .bool bg, .bool false] 73
  have t4 : Grew w2 (w2.alloc (.cells #[.int .u8 bm, .bool bg, .bool false] 73)) := (Turn.refl _ _).alloc _
  have hX4 : Bx (w2.alloc (.cells #[.int .u8 bm, .bool bg, .bool false] 73)) w.heap.size w2.heap.size m g true bm bg := ⟨b12.turn t4 (by simp), b22.turn t4 (by simp), b32.turn t4 (by simp), n4⟩
  have p0 := hX4.want.c0
  have p1 := hX4.want.c1
  have p2 := hX4.want.c2
  go_wp2_with fail
  refine (covers_any bm m bg g false true hbm hm _ (hB.cov.grew (hW2.trans t4))).mono ?_
  rintro e w5 ⟨rfl, h5⟩
  have hX := hX4.grew h5
  have hg5 := (hW2.trans t4).trans h5
  clear hX4 n4 b1 b2 b3 b12 b22 b32 x0 x1 x2 x3 x4 h2 h5 t4
  rw [hcov]
  go_wp2_with fail
  have x0 := hX.tg.c0
  have x1 := hX.tg.c1
  have x2 := hX.tg.c2
  have x3 := hX.tg.c3
  have x4 := hX.tg4
  have p0 := hX.want.c0
  have p1 := hX.want.c1
  have p2 := hX.want.c2
  refine region_tail 7 (by kernel_rfl) (by kernel_rfl) ?_
  simp only [List.take_succ_cons, List.take_zero, List.drop_succ_cons, List.drop_zero]
  iterate 6 still_step
  still_call (waitingAt_one Q _ _ ((hH.hold.grew hg5.drew).q))
  refine wpStill_nil ?_
  go_wp2_with fail
  refine (hblk _ hg5.drew).mono ?_
  rintro e w6 ⟨rfl, h6⟩
  have h6 : Grew w5 w6 := (Turn.refl (fun _ => False) w5).drew.trans h6
  have hg6 := hg5.trans h6
  have hX6 := hX.grew h6
  clear hX h6 hg5 x0 x1 x2 x3 x4 p0 p1 p2
  have hX := hX6
  go_wp2_with fail
  have e0 := hX.bef.c0
  have e1 := hX.bef.c1
  have e2 := hX.bef.c2
  have r0 := hX.res.c0
  have r1 := hX.res.c1
  have r2 := hX.res.c2
  have f0 := hX.res.frozen 0
  have f1 := hX.res.frozen 1
  have f2 := hX.res.frozen 2
  have hE := hX.fin
  go_region
  all_goals
    go_wp2_with fail
    have z0 := hE.1.c0
    have z1 := hE.1.c1
    have z2 := hE.1.c2
    refine bodyPost_ret ?_ rfl ⟨⟨.pointer (some ⟨Q, 0, none⟩), rfl⟩, hg6.then hE.2 (fun k hk e => by omega)⟩
    simp [results, Ybaz.f13, go_sem, z0, z1, z2]

set_option maxRecDepth 100000 in
set_option maxHeartbeats 4000000 in
theorem ga_held_ins (N X A L M cM T Y Q G cap b clk : Nat) (v : Value) (s : Int) (m : Nat) (g : Bool) (bm0 bm : Nat) (bg0 bg bb : Bool) (w : World) (hB : Base N X A L M cM T s w) (hH : HeldBy N X L T bm0 bg0 Q G cap b clk v w) (hP : PEq w T Y bb) (em : (if bb then bm0 else 0) = bm) (eg : (bb && bg0) = bg) (hbm : bm < 5) (hm : m < 5)
    (hblk : ∀ w1, Grew w w1 → Calls Ybaz.prog 18 #[.pointer (some ⟨A, 0, none⟩), (.agg #[.string { data := #[116] }, .bool false, .int .u8 0, .int .i64 0, .string { data := #[] }]), .pointer (some ⟨Q, 0, none⟩), .pointer (some ⟨Y, 0, none⟩), .agg #[.int .u8 m, .bool g, .bool true], .int .i64 0] w1 fun e w' => e = .returned (.bool false) ∧ Grew w1 w') :
    Calls Ybaz.prog 13 #[.pointer (some ⟨A, 0, none⟩), .pointer (some ⟨Y, 0, none⟩), (.agg #[.string { data := #[116] }, .bool false, .int .u8 0, .int .i64 0, .string { data := #[] }]), .agg #[.int .u8 m, .bool g, .bool true]] w fun e w' => (∃ qv, e = .returned (.tuple #[qv, .agg #[.int .u8 bm, .bool bg, .bool false], .bool true])) ∧ Grew w w' := by
  have hcov : (!true && covb bm m && (bg || !g)) = false := by simp
  have hem := em
  clear em
  have hW : Grew w (((w.alloc (.cells #[.string { data := #[116] }, .bool false, .int .u8 0, .int .i64 0, .string { data := #[] }] 69)).alloc (.cells #[.int .u8 m, .bool g, .bool true] 73)).alloc (.cells #[.int .u8 0, .bool false, .bool false] 73)) := (((Turn.refl _ w).alloc _).alloc _).alloc _
  have b1 : IsBlk (((w.alloc (.cells #[.string { data := #[116] }, .bool false, .int .u8 0, .int .i64 0, .string { data := #[] }] 69)).alloc (.cells #[.int .u8 m, .bool g, .bool true] 73)).alloc (.cells #[.int .u8 0, .bool false, .bool false] 73)) w.heap.size #[.string { data := #[116] }, .bool false, .int .u8 0, .int .i64 0, .string { data := #[] }] 69 := (IsBlk.new w _ 69).turn (((Turn.refl (fun _ => False) _).alloc _).alloc _) (by simp)
  have b2 : IsBlk (((w.alloc (.cells #[.string { data := #[116] }, .bool false, .int .u8 0, .int .i64 0, .string { data := #[] }] 69)).alloc (.cells #[.int .u8 m, .bool g, .bool true] 73)).alloc (.cells #[.int .u8 0, .bool false, .bool false] 73)) (w.heap.size + 1) #[.int .u8 m, .bool g, .bool true] 73 := by
    have := (IsBlk.new (w.alloc (.cells #[.string { data := #[116] }, .bool false, .int .u8 0, .int .i64 0, .string { data := #[] }] 69)) #[.int .u8 m, .bool g, .bool true] 73).turn ((Turn.refl (fun _ => False) _).alloc (.cells #[.int .u8 0, .bool false, .bool false] 73)) (by simp)
    simpa using this
  have b3 : IsBlk (((w.alloc (.cells #[.string { data := #[116] }, .bool false, .int .u8 0, .int .i64 0, .string { data := #[] }] 69)).alloc (.cells #[.int .u8 m, .bool g, .bool true] 73)).alloc (.cells #[.int .u8 0, .bool false, .bool false] 73)) (w.heap.size + 1 + 1) #[.int .u8 0, .bool false, .bool false] 73 := by
    have := IsBlk.new ((w.alloc (.cells #[.string { data := #[116] }, .bool false, .int .u8 0, .int .i64 0, .string { data := #[] }] 69)).alloc (.cells #[.int .u8 m, .bool g, .bool true] 73)) #[.int .u8 0, .bool false, .bool false] 73
    simpa using this
  have a2 := (hB.a.turn hW (by simp)).c2
  have hAlt := hB.a.lt
  have hl : (Instr.lookup 78 (.map (some L)) (.agg #[.string { data := #[116] }, .bool false, .int .u8 0, .int .i64 0, .string { data := #[] }]) false).run Ybaz.prog (((w.alloc (.cells #[.string { data := #[116] }, .bool false, .int .u8 0, .int .i64 0, .string { data := #[] }] 69)).alloc (.cells #[.int .u8 m, .bool g, .bool true] 73)).alloc (.cells #[.int .u8 0, .bool false, .bool false] 73)).drew = _ := lookup_one (hH.map.turn hW.drew (by simp))
  go_enter Ybaz.func13, Ybaz.ntmps13
  go_wp2_with fail
  go_region
  have hW := hW.drew
  have b1 := b1.turn (Turn.refl (fun _ => False) _).drew (by simp)
  have b2 := b2.turn (Turn.refl (fun _ => False) _).drew (by simp)
  have b3 := b3.turn (Turn.refl (fun _ => False) _).drew (by simp)
  clear a2 hl
  generalize (((w.alloc (.cells #[.string { data := #[116] }, .bool false, .int .u8 0, .int .i64 0, .string { data := #[] }] 69)).alloc (.cells #[.int .u8 m, .bool g, .bool true] 73)).alloc (.cells #[.int .u8 0, .bool false, .bool false] 73)).drew = W at *
  have x0 := b1.c0
  have x1 := b1.c1
  have x2 := b1.c2
  have x3 := b1.c3
  have x4 : W.cell? ⟨w.heap.size, 4, none⟩ = some (.string { data := #[] }) := (b1.cell 4).trans rfl
  go_wp2_with fail
  refine (held_one' A Y Q G cap T bm0 bm bg0 bb bg _ (hB.cov.grew hW) hbm hem eg (hH.hold.grew hW) (hP.grew hW)).mono ?_
  clear hem eg
  rintro e w2 ⟨rfl, h2⟩
  have hW2 := hW.trans h2
  have b12 := b1.turn h2 (by simp)
  have b22 := b2.turn h2 (by simp)
  have b32 := b3.turn h2 (by simp)
  have n4 := IsBlk.new w2 #[.int .u8 bm, .bool bg, .bool false] 73
  have t4 : Grew w2 (w2.alloc (.cells #[.int .u8 bm, .bool bg, .bool false] 73)) := (Turn.refl _ _).alloc _
  have hX4 : Bx (w2.alloc (.cells #[.int .u8 bm, .bool bg, .bool false] 73)) w.heap.size w2.heap.size m g true bm bg := ⟨b12.turn t4 (by simp), b22.turn t4 (by simp), b32.turn t4 (by simp), n4⟩
  have p0 := hX4.want.c0
  have p1 := hX4.want.c1
  have p2 := hX4.want.c2
  go_wp2_with fail
  refine (covers_any bm m bg g false true hbm hm _ (hB.cov.grew (hW2.trans t4))).mono ?_
  rintro e w5 ⟨rfl, h5⟩
  have hX := hX4.grew h5
  have hg5 := (hW2.trans t4).trans h5
  clear hX4 n4 b1 b2 b3 b12 b22 b32 x0 x1 x2 x3 x4 h2 h5 t4
  rw [hcov]
  go_wp2_with fail
  have x0 := hX.tg.c0
  have x1 := hX.tg.c1
  have x2 := hX.tg.c2
  have x3 := hX.tg.c3
  have x4 := hX.tg4
  have p0 := hX.want.c0
  have p1 := hX.want.c1
  have p2 := hX.want.c2
  refine region_tail 7 (by kernel_rfl) (by kernel_rfl) ?_
  simp only [List.take_succ_cons, List.take_zero, List.drop_succ_cons, List.drop_zero]
  iterate 6 still_step
  still_call (waitingAt_one Q _ _ ((hH.hold.grew hg5.drew).q))
  refine wpStill_nil ?_
  go_wp2_with fail
  refine (hblk _ hg5.drew).mono ?_
  rintro e w6 ⟨rfl, h6⟩
  have h6 : Grew w5 w6 := (Turn.refl (fun _ => False) w5).drew.trans h6
  have hg6 := hg5.trans h6
  have hX6 := hX.grew h6
  clear hX h6 hg5 x0 x1 x2 x3 x4 p0 p1 p2
  have x0 := hX6.tg.c0
  have x1 := hX6.tg.c1
  have x2 := hX6.tg.c2
  have x3 := hX6.tg.c3
  have x4 := hX6.tg4
  have p0 := hX6.want.c0
  have p1 := hX6.want.c1
  have p2 := hX6.want.c2
  go_wp2_with fail
  refine (queue_has A L M Q clk b s _ (hB.grew hg6).a (hH.map.turn hg6 (by simp))).mono ?_
  rintro e w7 ⟨rfl, h7⟩
  have hX7 := hX6.grew h7
  have hg7 := hg6.trans h7
  have x0 := hX7.tg.c0
  have x1 := hX7.tg.c1
  have x2 := hX7.tg.c2
  have x3 := hX7.tg.c3
  have x4 := hX7.tg4
  have p0 := hX7.want.c0
  have p1 := hX7.want.c1
  have p2 := hX7.want.c2
  go_wp2_with fail
  refine (grant_insert Q Y m g _).mono ?_
  rintro e w8 ⟨rfl, h8⟩
  have hX8 := hX7.grew h8
  have hg8 := hg7.trans h8
  have x0 := hX8.tg.c0
  have x1 := hX8.tg.c1
  have x2 := hX8.tg.c2
  have x3 := hX8.tg.c3
  have x4 := hX8.tg4
  have p0 := hX8.want.c0
  have p1 := hX8.want.c1
  have p2 := hX8.want.c2
  go_wp2_with fail
  refine (tidy_has A Q G cap _ _ (hH.hold.grew hg8).q).mono ?_
  rintro e w9 ⟨rfl, h9⟩
  have hX := hX8.grew h9
  have hg9 := hg8.trans h9
  go_wp2_with fail
  have e0 := hX.bef.c0
  have e1 := hX.bef.c1
  have e2 := hX.bef.c2
  have r0 := hX.res.c0
  have r1 := hX.res.c1
  have r2 := hX.res.c2
  have f0 := hX.res.frozen 0
  have f1 := hX.res.frozen 1
  have f2 := hX.res.frozen 2
  have hE := hX.fin
  go_region
  all_goals
    go_wp2_with fail
    have z0 := hE.1.c0
    have z1 := hE.1.c1
    have z2 := hE.1.c2
    refine bodyPost_ret ?_ rfl ⟨⟨.pointer (some ⟨Q, 0, none⟩), rfl⟩, hg9.then hE.2 (fun k hk e => by omega)⟩
    simp [results, Ybaz.f13, go_sem, z0, z1, z2]

set_option maxRecDepth 100000 in
set_option maxHeartbeats 4000000 in
theorem ga_held_more (N X A L M cM T Q G cap b clk : Nat) (v : Value) (s : Int) (m : Nat) (g : Bool) (bm0 bm : Nat) (bg0 bg bb : Bool) (w : World) (hB : Base N X A L M cM T s w) (hH : HeldBy N X L T bm0 bg0 Q G cap b clk v w) (hP : PEq w T T bb) (em : (if bb then bm0 else 0) = bm) (eg : (bb && bg0) = bg) (hbm : bm < 5) (hm : m < 5) (hbm0 : bm0 < 5) (hcov : (!false && covb bm m && (bg || !g)) = false) :
    Calls Ybaz.prog 13 #[.pointer (some ⟨A, 0, none⟩), .pointer (some ⟨T, 0, none⟩), (.agg #[.string { data := #[116] }, .bool false, .int .u8 0, .int .i64 0, .string { data := #[] }]), .agg #[.int .u8 m, .bool g, .bool false]] w fun e w' => (∃ qv, e = .returned (.tuple #[qv, .agg #[.int .u8 bm, .bool bg, .bool false], .bool true])) ∧ Base N X A L M cM T s w' ∧ HeldBy N X L T (joinb bm0 m) (bg0 || g) Q G cap b clk v w' ∧ Turn (· = G) w w' := by
  have hem := em
  clear em
  have hW : Grew w (((w.alloc (.cells #[.string { data := #[116] }, .bool false, .int .u8 0, .int .i64 0, .string { data := #[] }] 69)).alloc (.cells #[.int .u8 m, .bool g, .bool false] 73)).alloc (.cells #[.int .u8 0, .bool false, .bool false] 73)) := (((Turn.refl _ w).alloc _).alloc _).alloc _
  have b1 : IsBlk (((w.alloc (.cells #[.string { data := #[116] }, .bool false, .int .u8 0, .int .i64 0, .string { data := #[] }] 69)).alloc (.cells #[.int .u8 m, .bool g, .bool false] 73)).alloc (.cells #[.int .u8 0, .bool false, .bool false] 73)) w.heap.size #[.string { data := #[116] }, .bool false, .int .u8 0, .int .i64 0, .string { data := #[] }] 69 := (IsBlk.new w _ 69).turn (((Turn.refl (fun _ => False) _).alloc _).alloc _) (by simp)
  have b2 : IsBlk (((w.alloc (.cells #[.string { data := #[116] }, .bool false, .int .u8 0, .int .i64 0, .string { data := #[] }] 69)).alloc (.cells #[.int .u8 m, .bool g, .bool false] 73)).alloc (.cells #[.int .u8 0, .bool false, .bool false] 73)) (w.heap.size + 1) #[.int .u8 m, .bool g, .bool false] 73 := by
    have := (IsBlk.new (w.alloc (.cells #[.string { data := #[116] }, .bool false, .int .u8 0, .int .i64 0, .string { data := #[] }] 69)) #[.int .u8 m, .bool g, .bool false] 73).turn ((Turn.refl (fun _ => False) _).alloc (.cells #[.int .u8 0, .bool false, .bool false] 73)) (by simp)
    simpa using this
  have b3 : IsBlk (((w.alloc (.cells #[.string { data := #[116] }, .bool false, .int .u8 0, .int .i64 0, .string { data := #[] }] 69)).alloc (.cells #[.int .u8 m, .bool g, .bool false] 73)).alloc (.cells #[.int .u8 0, .bool false, .bool false] 73)) (w.heap.size + 1 + 1) #[.int .u8 0, .bool false, .bool false] 73 := by
    have := IsBlk.new ((w.alloc (.cells #[.string { data := #[116] }, .bool false, .int .u8 0, .int .i64 0, .string { data := #[] }] 69)).alloc (.cells #[.int .u8 m, .bool g, .bool false] 73)) #[.int .u8 0, .bool false, .bool false] 73
    simpa using this
  have a2 := (hB.a.turn hW (by simp)).c2
  have hAlt := hB.a.lt
  have hl : (Instr.lookup 78 (.map (some L)) (.agg #[.string { data := #[116] }, .bool false, .int .u8 0, .int .i64 0, .string { data := #[] }]) false).run Ybaz.prog (((w.alloc (.cells #[.string { data := #[116] }, .bool false, .int .u8 0, .int .i64 0, .string { data := #[] }] 69)).alloc (.cells #[.int .u8 m, .bool g, .bool false] 73)).alloc (.cells #[.int .u8 0, .bool false, .bool false] 73)).drew = _ := lookup_one (hH.map.turn hW.drew (by simp))
  go_enter Ybaz.func13, Ybaz.ntmps13
  go_wp2_with fail
  go_region
  have hW := hW.drew
  have b1 := b1.turn (Turn.refl (fun _ => False) _).drew (by simp)
  have b2 := b2.turn (Turn.refl (fun _ => False) _).drew (by simp)
  have b3 := b3.turn (Turn.refl (fun _ => False) _).drew (by simp)
  clear a2 hl
  generalize (((w.alloc (.cells #[.string { data := #[116] }, .bool false, .int .u8 0, .int .i64 0, .string { data := #[] }] 69)).alloc (.cells #[.int .u8 m, .bool g, .bool false] 73)).alloc (.cells #[.int .u8 0, .bool false, .bool false] 73)).drew = W at *
  have x0 := b1.c0
  have x1 := b1.c1
  have x2 := b1.c2
  have x3 := b1.c3
  have x4 : W.cell? ⟨w.heap.size, 4, none⟩ = some (.string { data := #[] }) := (b1.cell 4).trans rfl
  go_wp2_with fail
  refine (held_one' A T Q G cap T bm0 bm bg0 bb bg _ (hB.cov.grew hW) hbm hem eg (hH.hold.grew hW) (hP.grew hW)).mono ?_
  clear hem eg
  rintro e w2 ⟨rfl, h2⟩
  have hW2 := hW.trans h2
  have b12 := b1.turn h2 (by simp)
  have b22 := b2.turn h2 (by simp)
  have b32 := b3.turn h2 (by simp)
  have n4 := IsBlk.new w2 #[.int .u8 bm, .bool bg, .bool false] 73
  have t4 : Grew w2 (w2.alloc (.cells #[.int .u8 bm, .bool bg, .bool false] 73)) := (Turn.refl _ _).alloc _
  have hX4 : Bx (w2.alloc (.cells #[.int .u8 bm, .bool bg, .bool false] 73)) w.heap.size w2.heap.size m g false bm bg := ⟨b12.turn t4 (by simp), b22.turn t4 (by simp), b32.turn t4 (by simp), n4⟩
  have p0 := hX4.want.c0
  have p1 := hX4.want.c1
  have p2 := hX4.want.c2
  go_wp2_with fail
  refine (covers_any bm m bg g false false hbm hm _ (hB.cov.grew (hW2.trans t4))).mono ?_
  rintro e w5 ⟨rfl, h5⟩
  have hX := hX4.grew h5
  have hg5 := (hW2.trans t4).trans h5
  clear hX4 n4 b1 b2 b3 b12 b22 b32 x0 x1 x2 x3 x4 h2 h5 t4
  rw [hcov]
  go_wp2_with fail
  have x0 := hX.tg.c0
  have x1 := hX.tg.c1
  have x2 := hX.tg.c2
  have x3 := hX.tg.c3
  have x4 := hX.tg4
  have p0 := hX.want.c0
  have p1 := hX.want.c1
  have p2 := hX.want.c2
  refine region_tail 7 (by kernel_rfl) (by kernel_rfl) ?_
  simp only [List.take_succ_cons, List.take_zero, List.drop_succ_cons, List.drop_zero]
  iterate 6 still_step
  still_call (waitingAt_one Q _ _ ((hH.hold.grew hg5.drew).q))
  refine wpStill_nil ?_
  go_wp2_with fail
  refine (blocks_same A Q G cap T m bm0 g false bg0 _ (hH.hold.grew hg5.drew)).mono ?_
  rintro e w6 ⟨rfl, h6⟩
  have h6 : Grew w5 w6 := (Turn.refl (fun _ => False) w5).drew.trans h6
  have hg6 := hg5.trans h6
  have hX6 := hX.grew h6
  clear hX h6 hg5 x0 x1 x2 x3 x4 p0 p1 p2
  have x0 := hX6.tg.c0
  have x1 := hX6.tg.c1
  have x2 := hX6.tg.c2
  have x3 := hX6.tg.c3
  have x4 := hX6.tg4
  have p0 := hX6.want.c0
  have p1 := hX6.want.c1
  have p2 := hX6.want.c2
  go_wp2_with fail
  refine (queue_has A L M Q clk b s _ (hB.grew hg6).a (hH.map.turn hg6 (by simp))).mono ?_
  rintro e w7 ⟨rfl, h7⟩
  have hX7 := hX6.grew h7
  have hg7 := hg6.trans h7
  have x0 := hX7.tg.c0
  have x1 := hX7.tg.c1
  have x2 := hX7.tg.c2
  have x3 := hX7.tg.c3
  have x4 := hX7.tg4
  have p0 := hX7.want.c0
  have p1 := hX7.want.c1
  have p2 := hX7.want.c2
  go_wp2_with fail
  have hH7 := hH.grew hg7
  refine (grant_more Q G cap T m bm0 g bg0 _ (hB.cov.grew hg7) hm hbm0 hH7.hold).mono ?_
  rintro e w8 ⟨rfl, hH8, t8⟩
  have hGk : Kind w7 101 (· = G) := fun j hj => by
    obtain ⟨cs, hb, _⟩ := hH7.hold.row
    exact ⟨cs, hj ▸ hb⟩
  have hB7 := hB.grew hg7
  have hX8 := hX7.turn t8 (hGk.not hX7.tg (by decide)) (hGk.not hX7.want (by decide)) (hGk.not hX7.res (by decide)) (hGk.not hX7.bef (by decide))
  have hB8 := hB7.turn t8 (hGk.not hB7.a (by decide)) (hGk.notMap hB7.tm) (by have := hB.n0; have := hH.og.1; omega)
  have hK8 : HeldBy N X L T (joinb bm0 m) (bg0 || g) Q G cap b clk v w8 := ⟨hH7.map.turn t8 (hGk.notMap hH7.map), hH8, hH7.txn.turn t8 (hGk.notTxn hH7.txn (by decide)), by
    obtain ⟨K, cp, cs, rfl, hb, r⟩ := hH7.one
    exact ⟨K, cp, cs, rfl, hb.turn t8 (hGk.not hb (by decide)), r⟩, hH.oq, hH.og⟩
  have tt8 : Turn (· = G) w w8 := (Turn.of_grew (M := (· = G)) hg7).trans t8
  have x0 := hX8.tg.c0
  have x1 := hX8.tg.c1
  have x2 := hX8.tg.c2
  have x3 := hX8.tg.c3
  have x4 := hX8.tg4
  have p0 := hX8.want.c0
  have p1 := hX8.want.c1
  have p2 := hX8.want.c2
  go_wp2_with fail
  refine (tidy_has A Q G cap _ _ hH8.q).mono ?_
  rintro e w9 ⟨rfl, h9⟩
  have hX := hX8.grew h9
  have hK9 := hK8.grew h9
  have hB9 := hB8.grew h9
  have tt9 := tt8.grew h9
  go_wp2_with fail
  have e0 := hX.bef.c0
  have e1 := hX.bef.c1
  have e2 := hX.bef.c2
  have r0 := hX.res.c0
  have r1 := hX.res.c1
  have r2 := hX.res.c2
  have f0 := hX.res.frozen 0
  have f1 := hX.res.frozen 1
  have f2 := hX.res.frozen 2
  have hE := hX.fin
  go_region
  all_goals
    go_wp2_with fail
    have z0 := hE.1.c0
    have z1 := hE.1.c1
    have z2 := hE.1.c2
    refine bodyPost_ret ?_ rfl (by
      have hlt := hB.a.lt
      have hMlt := hB.tm.lt
      have hNn := hB.n
      have hXx := hB.x
      exact ⟨⟨.pointer (some ⟨Q, 0, none⟩), rfl⟩, hB9.turn hE.2 (by omega) (by omega) (by omega), hK9.turn (t := 73) hE.2 (fun j hj => by subst hj; exact ⟨_, hX.res⟩) (by decide) (by decide) (by decide) (by decide), tt9.then hE.2 (fun k hk e => by omega)⟩)
    simp [results, Ybaz.f13, go_sem, z0, z1, z2]
end Go.Proofs.YbulkdetkGreatDoor
