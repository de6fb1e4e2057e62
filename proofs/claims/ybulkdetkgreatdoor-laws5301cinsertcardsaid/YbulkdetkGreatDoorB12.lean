/- The states of the lock table: nobody holds; T holds. -/
import Derived.Test.YbulkdetkGreatDoorB11
namespace Go.Proofs.YbulkdetkGreatDoor
open Go.RowKit
set_option linter.unusedVariables false
set_option linter.unusedSimpArgs false

/-- The blocks that may turn. -/
def Own (N X k : Nat) : Prop := N ≤ k ∧ k ≠ X

/-- What holds of the table in either state. s: the mutex's word. -/
structure Base (N X A L M cM T : Nat) (s : Int) (w : World) : Prop where
  a : IsBlk w A (ltc s L M) 88
  tm : IsMap w M #[] cM
  cov : Cov w
  oa : Own N X A
  ol : Own N X L
  ot : Own N X T
  lm : L ≠ M
  x : X < w.heap.size
  n : N ≤ w.heap.size
  n0 : 0 < N

def Free (L T : Nat) (w : World) : Prop := ∃ clk, IsMap w L #[] clk ∧ Txn w T (.slice none 0 0)
structure HeldBy (N X L T m : Nat) (g : Bool) (Q G cap b clk : Nat) (v : Value) (w : World) : Prop where
  map : IsMap w L #[{ key := (.agg #[.string { data := #[116] }, .bool false, .int .u8 0, .int .i64 0, .string { data := #[] }]), val := .pointer (some ⟨Q, 0, none⟩), born := b }] clk
  hold : Hold w Q G cap T m g
  txn : Txn w T v
  one : OneLock w v
  oq : Own N X Q
  og : Own N X G

/-- A turn that leaves the table's own blocks alone. -/
structure Spares (A L M T : Nat) (P : Nat → Prop) : Prop where
  a : ¬ P A
  l : ¬ P L
  m : ¬ P M
  t : ¬ P T
  z : ¬ P 0

theorem Base.turn {N X A L M cM T : Nat} {s : Int} {P : Nat → Prop} {w w' : World} (h : Base N X A L M cM T s w) (k : Turn P w w') (ha : ¬ P A) (hm : ¬ P M) (h0 : ¬ P 0) : Base N X A L M cM T s w' :=
  ⟨h.a.turn k ha, h.tm.turn k hm, h.cov.turn k h0, h.oa, h.ol, h.ot, h.lm, Nat.lt_of_lt_of_le h.x k.size, Nat.le_trans h.n k.size, h.n0⟩
theorem Base.grew {N X A L M cM T : Nat} {s : Int} {w w' : World} (h : Base N X A L M cM T s w) (k : Grew w w') : Base N X A L M cM T s w' := h.turn k (by simp) (by simp) (by simp)
theorem Free.turn {L T : Nat} {P : Nat → Prop} {w w' : World} (h : Free L T w) (k : Turn P w w') (hl : ¬ P L) (ht : ¬ P T) : Free L T w' := by
  obtain ⟨clk, h1, h2⟩ := h
  exact ⟨clk, h1.turn k hl, h2.turn k ht⟩
theorem Free.grew {L T : Nat} {w w' : World} (h : Free L T w) (k : Grew w w') : Free L T w' := h.turn k (by simp) (by simp)

/-- Every block that turns is one of these type's cells. -/
def Kind (w : World) (t : TypeId) (P : Nat → Prop) : Prop := ∀ j, P j → ∃ cs, IsBlk w j cs t

theorem Kind.not {w : World} {t t' : TypeId} {P : Nat → Prop} (h : Kind w t P) {b : Nat} {cs : Array Value} (hb : IsBlk w b cs t') (ht : t' ≠ t) : ¬ P b := fun hp => by
  obtain ⟨cs', h'⟩ := h b hp
  exact IsBlk.ne hb h' ht rfl
theorem Kind.notMap {w : World} {t : TypeId} {P : Nat → Prop} (h : Kind w t P) {b clk : Nat} {es : Array MapEntry} (hb : IsMap w b es clk) : ¬ P b := fun hp => by
  obtain ⟨cs', h'⟩ := h b hp
  exact hb.ne h' rfl
theorem Kind.notTxn {w : World} {t : TypeId} {P : Nat → Prop} (h : Kind w t P) {b : Nat} {v : Value} (hb : Txn w b v) (ht : 65 ≠ t) : ¬ P b := by
  obtain ⟨cs, hb, _⟩ := hb
  exact h.not hb ht

theorem HeldBy.turn {N X L T m : Nat} {g : Bool} {Q G cap b clk : Nat} {v : Value} {t : TypeId} {P : Nat → Prop} {w w' : World} (h : HeldBy N X L T m g Q G cap b clk v w) (k : Turn P w w') (hk : Kind w t P) (h99 : 99 ≠ t) (h101 : 101 ≠ t) (h65 : 65 ≠ t) (h69 : 69 ≠ t) : HeldBy N X L T m g Q G cap b clk v w' := by
  refine ⟨h.map.turn k (hk.notMap h.map), h.hold.turn k (hk.not h.hold.q h99) ?_, h.txn.turn k (hk.notTxn h.txn h65), ?_, h.oq, h.og⟩
  · obtain ⟨cs, hb, _⟩ := h.hold.row
    exact hk.not hb h101
  · obtain ⟨K, cp, cs, rfl, hb, r⟩ := h.one
    exact ⟨K, cp, cs, rfl, hb.turn k (hk.not hb h69), r⟩
theorem HeldBy.grew {N X L T m : Nat} {g : Bool} {Q G cap b clk : Nat} {v : Value} {w w' : World} (h : HeldBy N X L T m g Q G cap b clk v w) (k : Grew w w') : HeldBy N X L T m g Q G cap b clk v w' :=
  h.turn (t := 0) k (fun j hj => hj.elim) (by decide) (by decide) (by decide) (by decide)

/-- The boxes of a grant's frame: the target, what is asked for, the result's cell; what was held before. -/
structure Bx (w : World) (s t m : Nat) (g i : Bool) (bm : Nat) (bg : Bool) : Prop where
  tg : IsBlk w s #[.string { data := #[116] }, .bool false, .int .u8 0, .int .i64 0, .string { data := #[] }] 69
  want : IsBlk w (s + 1) #[.int .u8 m, .bool g, .bool i] 73
  res : IsBlk w (s + 1 + 1) #[.int .u8 0, .bool false, .bool false] 73
  bef : IsBlk w t #[.int .u8 bm, .bool bg, .bool false] 73
theorem Bx.turn {w w' : World} {s t m : Nat} {g i : Bool} {bm : Nat} {bg : Bool} {P : Nat → Prop} (h : Bx w s t m g i bm bg) (k : Turn P w w') (h1 : ¬ P s) (h2 : ¬ P (s + 1)) (h3 : ¬ P (s + 1 + 1)) (h4 : ¬ P t) : Bx w' s t m g i bm bg :=
  ⟨h.tg.turn k h1, h.want.turn k h2, h.res.turn k h3, h.bef.turn k h4⟩
theorem Bx.grew {w w' : World} {s t m : Nat} {g i : Bool} {bm : Nat} {bg : Bool} (h : Bx w s t m g i bm bg) (k : Grew w w') : Bx w' s t m g i bm bg := h.turn k (by simp) (by simp) (by simp) (by simp)
end Go.Proofs.YbulkdetkGreatDoor
