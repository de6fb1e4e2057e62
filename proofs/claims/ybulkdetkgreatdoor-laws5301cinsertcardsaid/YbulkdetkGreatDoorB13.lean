/- A request, granted at once or not. -/
import Derived.Test.YbulkdetkGreatDoorB12
namespace Go.Proofs.YbulkdetkGreatDoor
open Go.RowKit
set_option linter.unusedVariables false
set_option linter.unusedSimpArgs false


theorem Bx.tg4 {w : World} {s t m : Nat} {g i : Bool} {bm : Nat} {bg : Bool} (h : Bx w s t m g i bm bg) : w.cell? ⟨s, 4, none⟩ = some (.string { data := #[] }) := (h.tg.cell 4).trans rfl
theorem Bx.fin {w : World} {s t m : Nat} {g i : Bool} {bm : Nat} {bg : Bool} (h : Bx w s t m g i bm bg) :
    IsBlk (((w.setCell ⟨s + 1 + 1, 0, none⟩ (.int .u8 bm)).setCell ⟨s + 1 + 1, 1, none⟩ (.bool bg)).setCell ⟨s + 1 + 1, 2, none⟩ (.bool false)).drew (s + 1 + 1) #[.int .u8 bm, .bool bg, .bool false] 73 ∧
    Turn (· = s + 1 + 1) w (((w.setCell ⟨s + 1 + 1, 0, none⟩ (.int .u8 bm)).setCell ⟨s + 1 + 1, 1, none⟩ (.bool bg)).setCell ⟨s + 1 + 1, 2, none⟩ (.bool false)).drew :=
  ⟨by simpa using (((h.res.set 0 (.int .u8 bm)).set 1 (.bool bg)).set 2 (.bool false)).turn (Turn.refl (fun _ => False) _).drew (by simp), (((Turn.set1 _ _ _ _).trans (Turn.set1 _ _ _ _)).trans (Turn.set1 _ _ _ _)).drew⟩

set_option maxRecDepth 100000 in
set_option maxHeartbeats 4000000 in
theorem ga_free_cov (N X A L M cM T Y : Nat) (s : Int) (m : Nat) (g i : Bool) (w : World) (hB : Base N X A L M cM T s w) (hF : Free L T w) (hm : m < 5) (hcov : (!i && covb 0 m && (false || !g)) = true) :
    Calls Ybaz.prog 13 #[.pointer (some ⟨A, 0, none⟩), .pointer (some ⟨Y, 0, none⟩), (.agg #[.string { data := #[116] }, .bool false, .int .u8 0, .int .i64 0, .string { data := #[] }]), .agg #[.int .u8 m, .bool g, .bool i]] w fun e w' => (∃ qv, e = .returned (.tuple #[qv, .agg #[.int .u8 0, .bool false, .bool false], .bool true])) ∧ Grew w w' := by
  have hW : Grew w (((w.alloc (.cells #[.string { data := #[116] }, .bool false, .int .u8 0, .int .i64 0, .string { data := #[] }] 69)).alloc (.cells #[.int .u8 m, .bool g, .bool i] 73)).alloc (.cells #[.int .u8 0, .bool false, .bool false] 73)) := (((Turn.refl _ w).alloc _).alloc _).alloc _
  have b1 : IsBlk (((w.alloc (.cells #[.string { data := #[116] }, .bool false, .int .u8 0, .int .i64 0, .string { data := #[] }] 69)).alloc (.cells #[.int .u8 m, .bool g, .bool i] 73)).alloc (.cells #[.int .u8 0, .bool false, .bool false] 73)) w.heap.size #[.string { data := #[116] }, .bool false, .int .u8 0, .int .i64 0, .string { data := #[] }] 69 := (IsBlk.new w _ 69).turn (((Turn.refl (fun _ => False) _).alloc _).alloc _) (by simp)
  have b2 : IsBlk (((w.alloc (.cells #[.string { data := #[116] }, .bool false, .int .u8 0, .int .i64 0, .string { data := #[] }] 69)).alloc (.cells #[.int .u8 m, .bool g, .bool i] 73)).alloc (.cells #[.int .u8 0, .bool false, .bool false] 73)) (w.heap.size + 1) #[.int .u8 m, .bool g, .bool i] 73 := by
    have := (IsBlk.new (w.alloc (.cells #[.string { data := #[116] }, .bool false, .int .u8 0, .int .i64 0, .string { data := #[] }] 69)) #[.int .u8 m, .bool g, .bool i] 73).turn ((Turn.refl (fun _ => False) _).alloc (.cells #[.int .u8 0, .bool false, .bool false] 73)) (by simp)
    simpa using this
  have b3 : IsBlk (((w.alloc (.cells #[.string { data := #[116] }, .bool false, .int .u8 0, .int .i64 0, .string { data := #[] }] 69)).alloc (.cells #[.int .u8 m, .bool g, .bool i] 73)).alloc (.cells #[.int .u8 0, .bool false, .bool false] 73)) (w.heap.size + 1 + 1) #[.int .u8 0, .bool false, .bool false] 73 := by
    have := IsBlk.new ((w.alloc (.cells #[.string { data := #[116] }, .bool false, .int .u8 0, .int .i64 0, .string { data := #[] }] 69)).alloc (.cells #[.int .u8 m, .bool g, .bool i] 73)) #[.int .u8 0, .bool false, .bool false] 73
    simpa using this
  have a2 := (hB.a.turn hW (by simp)).c2
  have hAlt := hB.a.lt
  obtain ⟨clk, hclk, htx⟩ := id hF
  have hl : (Instr.lookup 78 (.map (some L)) (.agg #[.string { data := #[116] }, .bool false, .int .u8 0, .int .i64 0, .string { data := #[] }]) false).run Ybaz.prog (((w.alloc (.cells #[.string { data := #[116] }, .bool false, .int .u8 0, .int .i64 0, .string { data := #[] }] 69)).alloc (.cells #[.int .u8 m, .bool g, .bool i] 73)).alloc (.cells #[.int .u8 0, .bool false, .bool false] 73)).drew = _ := lookup_none (hclk.turn hW.drew (by simp))
  go_enter Ybaz.func13, Ybaz.ntmps13
  go_wp2_with fail
  go_region
  have hW := hW.drew
  have b1 := b1.turn (Turn.refl (fun _ => False) _).drew (by simp)
  have b2 := b2.turn (Turn.refl (fun _ => False) _).drew (by simp)
  have b3 := b3.turn (Turn.refl (fun _ => False) _).drew (by simp)
  clear a2 hl
  generalize (((w.alloc (.cells #[.string { data := #[116] }, .bool false, .int .u8 0, .int .i64 0, .string { data := #[] }] 69)).alloc (.cells #[.int .u8 m, .bool g, .bool i] 73)).alloc (.cells #[.int .u8 0, .bool false, .bool false] 73)).drew = W at *
  have x0 := b1.c0
  have x1 := b1.c1
  have x2 := b1.c2
  have x3 := b1.c3
  have x4 : W.cell? ⟨w.heap.size, 4, none⟩ = some (.string { data := #[] }) := (b1.cell 4).trans rfl
  go_wp2_with fail
  refine (held_nil A Y _ (hB.cov.grew hW)).mono ?_
  rintro e w2 ⟨rfl, h2⟩
  have hW2 := hW.trans h2
  have b12 := b1.turn h2 (by simp)
  have b22 := b2.turn h2 (by simp)
  have b32 := b3.turn h2 (by simp)
  have n4 := IsBlk.new w2 #[.int .u8 0, .bool false, .bool false] 73
  have t4 : Grew w2 (w2.alloc (.cells #[.int .u8 0, .bool false, .bool false] 73)) := (Turn.refl _ _).alloc _
  have hX4 : Bx (w2.alloc (.cells #[.int .u8 0, .bool false, .bool false] 73)) w.heap.size w2.heap.size m g i 0 false := ⟨b12.turn t4 (by simp), b22.turn t4 (by simp), b32.turn t4 (by simp), n4⟩
  have p0 := hX4.want.c0
  have p1 := hX4.want.c1
  have p2 := hX4.want.c2
  go_wp2_with fail
  refine (covers_any 0 m false g false i (by decide) hm _ (hB.cov.grew (hW2.trans t4))).mono ?_
  rintro e w5 ⟨rfl, h5⟩
  have hX := hX4.grew h5
  have hg5 := (hW2.trans t4).trans h5
  clear hX4 n4 b1 b2 b3 b12 b22 b32 x0 x1 x2 x3 x4 h2 h5 t4
  rw [hcov]
  go_wp2_with fail
  have e0 := hX.bef.c0
  have e1 := hX.bef.c1
  have e2 := hX.bef.c2
  have r0 := hX.res.c0
  have r1 := hX.res.c1
  have r2 := hX.res.c2
  have f0 := hX.res.frozen 0
  have f1 := hX.res.frozen 1
  have f2 := hX.res.frozen 2
  have hE := hX.fin
  go_region
  all_goals
    go_wp2_with fail
    have z0 := hE.1.c0
    have z1 := hE.1.c1
    have z2 := hE.1.c2
    simp only [show ((0 : Nat) : Int) = 0 from rfl] at z0 z1 z2 hE
    refine bodyPost_ret ?_ rfl ⟨⟨.pointer none, rfl⟩, hg5.then hE.2 (fun k hk e => by omega)⟩
    simp [results, Ybaz.f13, go_sem, z0, z1, z2]

set_option maxRecDepth 100000 in
set_option maxHeartbeats 4000000 in
theorem ga_free_ins (N X A L M cM T Y : Nat) (s : Int) (m : Nat) (g : Bool) (w : World) (hB : Base N X A L M cM T s w) (hF : Free L T w) (hm : m < 5) :
    Calls Ybaz.prog 13 #[.pointer (some ⟨A, 0, none⟩), .pointer (some ⟨Y, 0, none⟩), (.agg #[.string { data := #[116] }, .bool false, .int .u8 0, .int .i64 0, .string { data := #[] }]), .agg #[.int .u8 m, .bool g, .bool true]] w fun e w' => (∃ qv, e = .returned (.tuple #[qv, .agg #[.int .u8 0, .bool false, .bool false], .bool true])) ∧ Base N X A L M cM T s w' ∧ Free L T w' ∧ Turn (· = L) w w' := by
  have hcov : (!true && covb 0 m && (false || !g)) = false := by simp
  have hW : Grew w (((w.alloc (.cells #[.string { data := #[116] }, .bool false, .int .u8 0, .int .i64 0, .string { data := #[] }] 69)).alloc (.cells #[.int .u8 m, .bool g, .bool true] 73)).alloc (.cells #[.int .u8 0, .bool false, .bool false] 73)) := (((Turn.refl _ w).alloc _).alloc _).alloc _
  have b1 : IsBlk (((w.alloc (.cells #[.string { data := #[116] }, .bool false, .int .u8 0, .int .i64 0, .string { data := #[] }] 69)).alloc (.cells #[.int .u8 m, .bool g, .bool true] 73)).alloc (.cells #[.int .u8 0, .bool false, .bool false] 73)) w.heap.size #[.string { data := #[116] }, .bool false, .int .u8 0, .int .i64 0, .string { data := #[] }] 69 := (IsBlk.new w _ 69).turn (((Turn.refl (fun _ => False) _).alloc _).alloc _) (by simp)
  have b2 : IsBlk (((w.alloc (.cells #[.string { data := #[116] }, .bool false, .int .u8 0, .int .i64 0, .string { data := #[] }] 69)).alloc (.cells #[.int .u8 m, .bool g, .bool true] 73)).alloc (.cells #[.int .u8 0, .bool false, .bool false] 73)) (w.heap.size + 1) #[.int .u8 m, .bool g, .bool true] 73 := by
    have := (IsBlk.new (w.alloc (.cells #[.string { data := #[116] }, .bool false, .int .u8 0, .int .i64 0, .string { data := #[] }] 69)) #[.int .u8 m, .bool g, .bool true] 73).turn ((Turn.refl (fun _ => False) _).alloc (.cells #[.int .u8 0, .bool false, .bool false] 73)) (by simp)
    simpa using this
  have b3 : IsBlk (((w.alloc (.cells #[.string { data := #[116] }, .bool false, .int .u8 0, .int .i64 0, .string { data := #[] }] 69)).alloc (.cells #[.int .u8 m, .bool g, .bool true] 73)).alloc (.cells #[.int .u8 0, .bool false, .bool false] 73)) (w.heap.size + 1 + 1) #[.int .u8 0, .bool false, .bool false] 73 := by
    have := IsBlk.new ((w.alloc (.cells #[.string { data := #[116] }, .bool false, .int .u8 0, .int .i64 0, .string { data := #[] }] 69)).alloc (.cells #[.int .u8 m, .bool g, .bool true] 73)) #[.int .u8 0, .bool false, .bool false] 73
    simpa using this
  have a2 := (hB.a.turn hW (by simp)).c2
  have hAlt := hB.a.lt
  obtain ⟨clk, hclk, htx⟩ := id hF
  have hl : (Instr.lookup 78 (.map (some L)) (.agg #[.string { data := #[116] }, .bool false, .int .u8 0, .int .i64 0, .string { data := #[] }]) false).run Ybaz.prog (((w.alloc (.cells #[.string { data := #[116] }, .bool false, .int .u8 0, .int .i64 0, .string { data := #[] }] 69)).alloc (.cells #[.int .u8 m, .bool g, .bool true] 73)).alloc (.cells #[.int .u8 0, .bool false, .bool false] 73)).drew = _ := lookup_none (hclk.turn hW.drew (by simp))
  go_enter Ybaz.func13, Ybaz.ntmps13
  go_wp2_with fail
  go_region
  have hW := hW.drew
  have b1 := b1.turn (Turn.refl (fun _ => False) _).drew (by simp)
  have b2 := b2.turn (Turn.refl (fun _ => False) _).drew (by simp)
  have b3 := b3.turn (Turn.refl (fun _ => False) _).drew (by simp)
  clear a2 hl
  generalize (((w.alloc (.cells #[.string { data := #[116] }, .bool false, .int .u8 0, .int .i64 0, .string { data := #[] }] 69)).alloc (.cells #[.int .u8 m, .bool g, .bool true] 73)).alloc (.cells #[.int .u8 0, .bool false, .bool false] 73)).drew = W at *
  have x0 := b1.c0
  have x1 := b1.c1
  have x2 := b1.c2
  have x3 := b1.c3
  have x4 : W.cell? ⟨w.heap.size, 4, none⟩ = some (.string { data := #[] }) := (b1.cell 4).trans rfl
  go_wp2_with fail
  refine (held_nil A Y _ (hB.cov.grew hW)).mono ?_
  rintro e w2 ⟨rfl, h2⟩
  have hW2 := hW.trans h2
  have b12 := b1.turn h2 (by simp)
  have b22 := b2.turn h2 (by simp)
  have b32 := b3.turn h2 (by simp)
  have n4 := IsBlk.new w2 #[.int .u8 0, .bool false, .bool false] 73
  have t4 : Grew w2 (w2.alloc (.cells #[.int .u8 0, .bool false, .bool false] 73)) := (Turn.refl _ _).alloc _
  have hX4 : Bx (w2.alloc (.cells #[.int .u8 0, .bool false, .bool false] 73)) w.heap.size w2.heap.size m g true 0 false := ⟨b12.turn t4 (by simp), b22.turn t4 (by simp), b32.turn t4 (by simp), n4⟩
  have p0 := hX4.want.c0
  have p1 := hX4.want.c1
  have p2 := hX4.want.c2
  go_wp2_with fail
  refine (covers_any 0 m false g false true (by decide) hm _ (hB.cov.grew (hW2.trans t4))).mono ?_
  rintro e w5 ⟨rfl, h5⟩
  have hX := hX4.grew h5
  have hg5 := (hW2.trans t4).trans h5
  clear hX4 n4 b1 b2 b3 b12 b22 b32 x0 x1 x2 x3 x4 h2 h5 t4
  rw [hcov]
  go_wp2_with fail
  have x0 := hX.tg.c0
  have x1 := hX.tg.c1
  have x2 := hX.tg.c2
  have x3 := hX.tg.c3
  have x4 := hX.tg4
  have p0 := hX.want.c0
  have p1 := hX.want.c1
  have p2 := hX.want.c2
  refine region_tail 7 (by kernel_rfl) (by kernel_rfl) ?_
  simp only [List.take_succ_cons, List.take_zero, List.drop_succ_cons, List.drop_zero]
  iterate 6 still_step
  still_call (waitingAt_nil _)
  refine wpStill_nil ?_
  go_wp2_with fail
  refine (blocks_nil A Y m g true _).mono ?_
  rintro e w6 ⟨rfl, h6⟩
  have h6 : Grew w5 w6 := (Turn.refl (fun _ => False) w5).drew.trans h6
  have hg6 := hg5.trans h6
  have hX6 := hX.grew h6
  clear hX h6 hg5 x0 x1 x2 x3 x4 p0 p1 p2
  have x0 := hX6.tg.c0
  have x1 := hX6.tg.c1
  have x2 := hX6.tg.c2
  have x3 := hX6.tg.c3
  have x4 := hX6.tg4
  have p0 := hX6.want.c0
  have p1 := hX6.want.c1
  have p2 := hX6.want.c2
  go_wp2_with fail
  have hB6 := hB.grew hg6
  have hclk6 := hclk.turn hg6 (by simp)
  refine (queue_new A L M clk s _ hB6.a hclk6).mono ?_
  rintro e w7 ⟨Q, rfl, hQ1, hQ2, hM7, t7⟩
  have hLlt := hclk.lt
  have hX7 := hX6.turn t7 (hclk6.ne hX6.tg).symm (hclk6.ne hX6.want).symm (hclk6.ne hX6.res).symm (hclk6.ne hX6.bef).symm
  have hB7 := hB6.turn t7 (hclk6.ne hB6.a).symm (Ne.symm hB.lm) (by have := hB.ol.1; have := hB.n0; omega)
  have tt7 : Turn (· = L) w w7 := (Turn.of_grew (M := (· = L)) hg6).trans t7
  have x0 := hX7.tg.c0
  have x1 := hX7.tg.c1
  have x2 := hX7.tg.c2
  have x3 := hX7.tg.c3
  have x4 := hX7.tg4
  have p0 := hX7.want.c0
  have p1 := hX7.want.c1
  have p2 := hX7.want.c2
  go_wp2_with fail
  refine (grant_insert Q Y m g _).mono ?_
  rintro e w8 ⟨rfl, h8⟩
  have hX8 := hX7.grew h8
  have x0 := hX8.tg.c0
  have x1 := hX8.tg.c1
  have x2 := hX8.tg.c2
  have x3 := hX8.tg.c3
  have x4 := hX8.tg4
  have p0 := hX8.want.c0
  have p1 := hX8.want.c1
  have p2 := hX8.want.c2
  go_wp2_with fail
  have hB8 := hB7.grew h8
  have hM8 := hM7.turn h8 (by simp)
  refine (tidy_empty A L M Q (clk + 1) clk s _ _ hB8.a (hQ2.turn h8 (by simp)) hM8).mono ?_
  rintro e w9 ⟨rfl, hM9, t9⟩
  have hX := hX8.turn t9 (hM8.ne hX8.tg).symm (hM8.ne hX8.want).symm (hM8.ne hX8.res).symm (hM8.ne hX8.bef).symm
  have hB9 := hB8.turn t9 (hM8.ne hB8.a).symm (Ne.symm hB.lm) (by have := hB.ol.1; have := hB.n0; omega)
  have tt9 : Turn (· = L) w w9 := (tt7.grew h8).trans t9
  have htx9 := htx.turn tt9 (by obtain ⟨cs, hb, _⟩ := htx; exact (hclk.ne hb).symm)
  go_wp2_with fail
  have e0 := hX.bef.c0
  have e1 := hX.bef.c1
  have e2 := hX.bef.c2
  have r0 := hX.res.c0
  have r1 := hX.res.c1
  have r2 := hX.res.c2
  have f0 := hX.res.frozen 0
  have f1 := hX.res.frozen 1
  have f2 := hX.res.frozen 2
  have hE := hX.fin
  go_region
  all_goals
    go_wp2_with fail
    have z0 := hE.1.c0
    have z1 := hE.1.c1
    have z2 := hE.1.c2
    simp only [show ((0 : Nat) : Int) = 0 from rfl] at z0 z1 z2 hE
    refine bodyPost_ret ?_ rfl (by
      have hlt := hB.a.lt
      have hMlt := hB.tm.lt
      have hTlt := htx.lt
      have hNn := hB.n
      have hXx := hB.x
      exact ⟨⟨.pointer (some ⟨Q, 0, none⟩), rfl⟩, hB9.turn hE.2 (by omega) (by omega) (by omega), ⟨_, hM9.turn hE.2 (by omega), htx9.turn hE.2 (by omega)⟩, tt9.then hE.2 (fun k hk e => by omega)⟩)
    simp [results, Ybaz.f13, go_sem, z0, z1, z2]
end Go.Proofs.YbulkdetkGreatDoor
