/- 'tryAcquire': under the mutex. -/
import Derived.Test.YbulkdetkGreatDoorB14
import Derived.Test.YbulkdetkGreatDoorLocks
import Derived.Conc.MuLone
namespace Go.Proofs.YbulkdetkGreatDoor
open Go.RowKit Go.MuLone
set_option linter.unusedVariables false
set_option linter.unusedSimpArgs false

theorem Base.lock {N X A L M cM T : Nat} {s : Int} {w : World} (h : Base N X A L M cM T s w) (s' : Int) : Base N X A L M cM T s' (w.setCell ⟨A, 0, none⟩ (.int .i32 s')) ∧ Turn (· = A) w (w.setCell ⟨A, 0, none⟩ (.int .i32 s')) := by
  have t := Turn.set1 w A 0 (.int .i32 s')
  have ha := h.a.set 0 (.int .i32 s')
  refine ⟨⟨by simpa using ha, h.tm.turn t (h.tm.ne h.a), h.cov.turn t (by have := h.n0; have := h.oa.1; omega), h.oa, h.ol, h.ot, h.lm, Nat.lt_of_lt_of_le h.x t.size, Nat.le_trans h.n t.size, h.n0⟩, t⟩

/-- Blocks of other kinds than the table's own lie as they lay. -/
def Keeps (w w' : World) : Prop := ∀ k cs t, t ≠ 65 → t ≠ 88 → t ≠ 101 → IsBlk w k cs t → IsBlk w' k cs t
theorem Keeps.trans {a b c : World} (h : Keeps a b) (k : Keeps b c) : Keeps a c := fun j cs t h1 h2 h3 hb => k j cs t h1 h2 h3 (h j cs t h1 h2 h3 hb)
theorem Keeps.of_grew {w w' : World} (h : Grew w w') : Keeps w w' := fun k cs t _ _ _ hb => hb.turn h (by simp)
theorem Keeps.of_kind {w w' : World} {t : TypeId} {P : Nat → Prop} (h : Turn P w w') (hk : Kind w t P) (ht : t = 65 ∨ t = 88 ∨ t = 101) : Keeps w w' := fun k cs t' h1 h2 h3 hb => hb.turn h (hk.not hb (by rcases ht with rfl | rfl | rfl <;> assumption))
theorem Keeps.of_map {w w' : World} {L clk : Nat} {es : Array MapEntry} (h : Turn (· = L) w w') (hL : IsMap w L es clk) : Keeps w w' := fun k cs t' h1 h2 h3 hb => hb.turn h (fun e => hL.ne hb e.symm)

/-- What abides the turn of a frame's own cells, and of the table's mutex. -/
def Stays (S : World → Prop) : Prop := ∀ u u' P t, (t = 73 ∨ t = 88) → Kind u t P → Turn P u u' → S u → S u'
theorem Stays.grew {S : World → Prop} (h : Stays S) {u u' : World} (k : Grew u u') (hs : S u) : S u' := h u u' _ 73 (Or.inl rfl) (fun j hj => hj.elim) k hs

set_option maxRecDepth 100000 in
set_option maxHeartbeats 4000000 in
/-- Whatever grantAtOnce does under the mutex. -/
theorem try_any (N X A L M cM T Y : Nat) (m : Nat) (g i : Bool) (bm : Nat) (bg ok : Bool) (w : World) (hB : Base N X A L M cM T 0 w) (S0 S : World → Prop) (hS0 : Stays S0) (hS : Stays S) (h0 : S0 w)
    (hga : ∀ w1, Base N X A L M cM T 1 w1 → S0 w1 → Calls Ybaz.prog 13 #[.pointer (some ⟨A, 0, none⟩), .pointer (some ⟨Y, 0, none⟩), (.agg #[.string { data := #[116] }, .bool false, .int .u8 0, .int .i64 0, .string { data := #[] }]), .agg #[.int .u8 m, .bool g, .bool i]] w1 fun e w' => (∃ qv, e = .returned (.tuple #[qv, .agg #[.int .u8 bm, .bool bg, .bool false], .bool ok])) ∧ Base N X A L M cM T 1 w' ∧ Turn (Own N X) w1 w' ∧ Keeps w1 w' ∧ S w') :
    Calls Ybaz.prog 7 #[.pointer (some ⟨A, 0, none⟩), .pointer (some ⟨Y, 0, none⟩), (.agg #[.string { data := #[116] }, .bool false, .int .u8 0, .int .i64 0, .string { data := #[] }]), .agg #[.int .u8 m, .bool g, .bool i]] w fun e w' => e = .returned (.tuple #[.agg #[.int .u8 bm, .bool bg, .bool false], .bool ok]) ∧ Base N X A L M cM T 0 w' ∧ Turn (Own N X) w w' ∧ Keeps w w' ∧ S w' := by
  have hW : Grew w (((w.alloc (.cells #[.string { data := #[116] }, .bool false, .int .u8 0, .int .i64 0, .string { data := #[] }] 69)).alloc (.cells #[.int .u8 m, .bool g, .bool i] 73)).alloc (.cells #[.int .u8 0, .bool false, .bool false] 73)) := (((Turn.refl _ w).alloc _).alloc _).alloc _
  have b1 : IsBlk (((w.alloc (.cells #[.string { data := #[116] }, .bool false, .int .u8 0, .int .i64 0, .string { data := #[] }] 69)).alloc (.cells #[.int .u8 m, .bool g, .bool i] 73)).alloc (.cells #[.int .u8 0, .bool false, .bool false] 73)) w.heap.size #[.string { data := #[116] }, .bool false, .int .u8 0, .int .i64 0, .string { data := #[] }] 69 := (IsBlk.new w _ 69).turn (((Turn.refl (fun _ => False) _).alloc _).alloc _) (by simp)
  have b2 : IsBlk (((w.alloc (.cells #[.string { data := #[116] }, .bool false, .int .u8 0, .int .i64 0, .string { data := #[] }] 69)).alloc (.cells #[.int .u8 m, .bool g, .bool i] 73)).alloc (.cells #[.int .u8 0, .bool false, .bool false] 73)) (w.heap.size + 1) #[.int .u8 m, .bool g, .bool i] 73 := by
    have := (IsBlk.new (w.alloc (.cells #[.string { data := #[116] }, .bool false, .int .u8 0, .int .i64 0, .string { data := #[] }] 69)) #[.int .u8 m, .bool g, .bool i] 73).turn ((Turn.refl (fun _ => False) _).alloc (.cells #[.int .u8 0, .bool false, .bool false] 73)) (by simp)
    simpa using this
  have b3 : IsBlk (((w.alloc (.cells #[.string { data := #[116] }, .bool false, .int .u8 0, .int .i64 0, .string { data := #[] }] 69)).alloc (.cells #[.int .u8 m, .bool g, .bool i] 73)).alloc (.cells #[.int .u8 0, .bool false, .bool false] 73)) (w.heap.size + 1 + 1) #[.int .u8 0, .bool false, .bool false] 73 := by
    have := IsBlk.new ((w.alloc (.cells #[.string { data := #[116] }, .bool false, .int .u8 0, .int .i64 0, .string { data := #[] }] 69)).alloc (.cells #[.int .u8 m, .bool g, .bool i] 73)) #[.int .u8 0, .bool false, .bool false] 73
    simpa using this
  have hB1 := hB.grew hW
  have a0 := hB1.a.c0
  have af := hB1.a.frozen 0
  have hL1 := hB1.lock 1
  have tA : Turn (· = A) w ((((w.alloc (.cells #[.string { data := #[116] }, .bool false, .int .u8 0, .int .i64 0, .string { data := #[] }] 69)).alloc (.cells #[.int .u8 m, .bool g, .bool i] 73)).alloc (.cells #[.int .u8 0, .bool false, .bool false] 73)).setCell ⟨A, 0, none⟩ (.int .i32 1)) := (Turn.of_grew (M := (· = A)) hW).trans hL1.2
  have kA : Kind (((w.alloc (.cells #[.string { data := #[116] }, .bool false, .int .u8 0, .int .i64 0, .string { data := #[] }] 69)).alloc (.cells #[.int .u8 m, .bool g, .bool i] 73)).alloc (.cells #[.int .u8 0, .bool false, .bool false] 73)) 88 (· = A) := fun j hj => ⟨_, hj ▸ hB1.a⟩
  have kW1 := (Keeps.of_grew hW).trans (Keeps.of_kind hL1.2 kA (by simp))
  have hc := hga _ hL1.1 (hS0 _ _ _ 88 (Or.inr rfl) kA hL1.2 (hS0.grew hW h0))
  go_enter_defers Ybaz.func7, Ybaz.ntmps7
  go_wp2_with fail
  refine (lock_free Ybaz.muLib ⟨A, 0, none⟩ _ a0 af).mono ?_
  rintro e w' ⟨rfl, rfl⟩
  have c1 := b1.turn hL1.2 (IsBlk.ne b1 hB1.a (by decide))
  have c2 := b2.turn hL1.2 (IsBlk.ne b2 hB1.a (by decide))
  have c3 := b3.turn hL1.2 (IsBlk.ne b3 hB1.a (by decide))
  clear b1 b2 b3 a0 af
  generalize (((w.alloc (.cells #[.string { data := #[116] }, .bool false, .int .u8 0, .int .i64 0, .string { data := #[] }] 69)).alloc (.cells #[.int .u8 m, .bool g, .bool i] 73)).alloc (.cells #[.int .u8 0, .bool false, .bool false] 73)).setCell ⟨A, 0, none⟩ (.int .i32 1) = W1 at *
  have x0 := c1.c0
  have x1 := c1.c1
  have x2 := c1.c2
  have x3 := c1.c3
  have x4 : W1.cell? ⟨w.heap.size, 4, none⟩ = some (.string { data := #[] }) := (c1.cell 4).trans rfl
  have p0 := c2.c0
  have p1 := c2.c1
  have p2 := c2.c2
  go_wp2_with fail
  refine hc.mono ?_
  rintro e w2 ⟨⟨qv, rfl⟩, hB2, t2, k2, hS2⟩
  have d3 := k2 _ _ 73 (by decide) (by decide) (by decide) c3
  have n4 : Grew w2 (w2.alloc (.cells #[.int .u8 bm, .bool bg, .bool false] 73)) := (Turn.refl _ _).alloc _
  have d34 := d3.turn n4 (by simp)
  have r0 := d34.c0
  have r1 := d34.c1
  have r2 := d34.c2
  have f0 := d34.frozen 0
  have f1 := d34.frozen 1
  have f2 := d34.frozen 2
  have hE : IsBlk ((((w2.alloc (.cells #[.int .u8 bm, .bool bg, .bool false] 73)).setCell ⟨w.heap.size + 1 + 1, 0, none⟩ (.int .u8 bm)).setCell ⟨w.heap.size + 1 + 1, 1, none⟩ (.bool bg)).setCell ⟨w.heap.size + 1 + 1, 2, none⟩ (.bool false)) (w.heap.size + 1 + 1) #[.int .u8 bm, .bool bg, .bool false] 73 ∧
      Turn (· = w.heap.size + 1 + 1) (w2.alloc (.cells #[.int .u8 bm, .bool bg, .bool false] 73)) ((((w2.alloc (.cells #[.int .u8 bm, .bool bg, .bool false] 73)).setCell ⟨w.heap.size + 1 + 1, 0, none⟩ (.int .u8 bm)).setCell ⟨w.heap.size + 1 + 1, 1, none⟩ (.bool bg)).setCell ⟨w.heap.size + 1 + 1, 2, none⟩ (.bool false)) :=
    ⟨by simpa using ((d34.set 0 (.int .u8 bm)).set 1 (.bool bg)).set 2 (.bool false), ((Turn.set1 _ _ _ _).trans (Turn.set1 _ _ _ _)).trans (Turn.set1 _ _ _ _)⟩
  go_wp2_with fail
  have hB3 := hB2.grew n4
  have k73 : Kind (w2.alloc (.cells #[.int .u8 bm, .bool bg, .bool false] 73)) 73 (· = w.heap.size + 1 + 1) := fun j hj => ⟨_, hj ▸ d34⟩
  have hB4 := hB3.turn hE.2 (k73.not hB3.a (by decide)) (k73.notMap hB3.tm) (by omega)
  have hS4 := hS _ _ _ 73 (Or.inl rfl) k73 hE.2 (hS.grew n4 hS2)
  have tt4 : Turn (Own N X) w ((((w2.alloc (.cells #[.int .u8 bm, .bool bg, .bool false] 73)).setCell ⟨w.heap.size + 1 + 1, 0, none⟩ (.int .u8 bm)).setCell ⟨w.heap.size + 1 + 1, 1, none⟩ (.bool bg)).setCell ⟨w.heap.size + 1 + 1, 2, none⟩ (.bool false)) := (((tA.mono (M' := Own N X) (fun k _ e => e ▸ hB.oa)).trans t2).grew n4).then hE.2 (fun k hk e => by omega)
  have kk4 : ∀ k cs t, t ≠ 65 → t ≠ 88 → t ≠ 101 → IsBlk w k cs t → IsBlk ((((w2.alloc (.cells #[.int .u8 bm, .bool bg, .bool false] 73)).setCell ⟨w.heap.size + 1 + 1, 0, none⟩ (.int .u8 bm)).setCell ⟨w.heap.size + 1 + 1, 1, none⟩ (.bool bg)).setCell ⟨w.heap.size + 1 + 1, 2, none⟩ (.bool false)) k cs t := by
    intro k cs t h1 h2 h3 hb
    have hlt := hb.lt
    exact ((k2 k cs t h1 h2 h3 (kW1 k cs t h1 h2 h3 hb)).turn n4 (by simp)).turn hE.2 (by omega)
  have hE1 := hE.1
  clear hE r0 r1 r2 f0 f1 f2 d34 n4 d3 k73 hB3
  generalize (((w2.alloc (.cells #[.int .u8 bm, .bool bg, .bool false] 73)).setCell ⟨w.heap.size + 1 + 1, 0, none⟩ (.int .u8 bm)).setCell ⟨w.heap.size + 1 + 1, 1, none⟩ (.bool bg)).setCell ⟨w.heap.size + 1 + 1, 2, none⟩ (.bool false) = W4 at *
  have hL5 := hB4.lock 0
  have k88 : Kind W4 88 (· = A) := fun j hj => ⟨_, hj ▸ hB4.a⟩
  have hE5 := hE1.turn hL5.2 (k88.not hE1 (by decide))
  refine leaves_cons (f := 12) (args := #[.pointer (some ⟨A, 0, none⟩)]) (by simp) (by simp [go_sem]) ?_
  refine (unlock_deferred Ybaz.muLib ⟨A, 0, none⟩ .returning _ hB4.a.c0 (hB4.a.frozen 0)).mono ?_
  rintro e u' w'' ⟨rfl, rfl, rfl⟩
  have z0 := hE5.c0
  have z1 := hE5.c1
  have z2 := hE5.c2
  refine ⟨.tuple #[.agg #[.int .u8 bm, .bool bg, .bool false], .bool ok], ?_, rfl, hL5.1, tt4.then hL5.2 (fun k hk e => e ▸ hB.oa), fun k cs t h1 h2 h3 hb => (kk4 k cs t h1 h2 h3 hb).turn hL5.2 (k88.not (kk4 k cs t h1 h2 h3 hb) h2), hS _ _ _ 88 (Or.inr rfl) k88 hL5.2 hS4⟩
  simp [results, Ybaz.f7, go_sem, z0, z1, z2]
end Go.Proofs.YbulkdetkGreatDoor
