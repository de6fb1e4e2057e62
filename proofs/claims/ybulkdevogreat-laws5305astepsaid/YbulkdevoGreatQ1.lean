/- Blocks of memory and what turns in them. No Go text. -/
import Derived.WalkKit
import Derived.WalkSpells
import Derived.WalkLawsBesides
import Derived.Sort.Grow
import Derived.Deep.MidRow
import Derived.Test.YbulkdevoGreatP1
namespace Go.Proofs.YbulkdevoGreat
open Go.RowKit Go.Sort
set_option linter.unusedVariables false

/-- Block b holds these cells; none of them is frozen. -/
def IsBlk (w : World) (b : Nat) (cs : Array Value) (t : TypeId) : Prop := w.heap[b]? = some (.cells cs t (0, 0))

theorem IsBlk.lt {w : World} {b : Nat} {cs : Array Value} {t : TypeId} (h : IsBlk w b cs t) : b < w.heap.size := (Array.getElem?_eq_some_iff.1 h).1
theorem IsBlk.cell {w : World} {b : Nat} {cs : Array Value} {t : TypeId} (h : IsBlk w b cs t) (i : Nat) : w.cell? ⟨b, i, none⟩ = cs[i]? := by
  unfold IsBlk at h
  simp [World.cell?, h]
theorem IsBlk.frozen {w : World} {b : Nat} {cs : Array Value} {t : TypeId} (h : IsBlk w b cs t) (i : Nat) : w.frozen? ⟨b, i, none⟩ = false := by
  unfold IsBlk at h
  simp [World.frozen?, h]
theorem IsBlk.ne {w : World} {b b' : Nat} {cs cs' : Array Value} {t t' : TypeId} (h : IsBlk w b cs t) (h' : IsBlk w b' cs' t') (ht : t ≠ t') : b ≠ b' := by
  intro e
  subst e
  unfold IsBlk at h h'
  rw [h] at h'
  simp at h'
  exact ht h'.2
theorem IsBlk.new (w : World) (cs : Array Value) (t : TypeId) : IsBlk (w.alloc (.cells cs t)) w.heap.size cs t := by
  show (w.heap.push _)[w.heap.size]? = _
  simp
theorem IsBlk.same {w w' : World} {b : Nat} {cs : Array Value} {t : TypeId} (h : IsBlk w b cs t) (e : w'.heap[b]? = w.heap[b]?) : IsBlk w' b cs t := e.trans h
theorem IsBlk.set {w : World} {b : Nat} {cs : Array Value} {t : TypeId} (h : IsBlk w b cs t) (i : Nat) (v : Value) : IsBlk (w.setCell ⟨b, i, none⟩ v) b (cs.setIfInBounds i v) t := by
  unfold IsBlk at h ⊢
  simp only [World.setCell, Array.getElem?_modify, if_pos, h]
  simp

/-- From w to w' no block has turned but those of M; blocks may have been added. -/
structure Turn (M : Nat → Prop) (w w' : World) : Prop where
  os : w'.os = w.os
  tape : w'.tape = w.tape
  output : w'.output = w.output
  size : w.heap.size ≤ w'.heap.size
  block : ∀ k, k < w.heap.size → ¬ M k → w'.heap[k]? = w.heap[k]?

theorem Turn.refl (M : Nat → Prop) (w : World) : Turn M w w := ⟨rfl, rfl, rfl, Nat.le_refl _, fun _ _ _ => rfl⟩
theorem Turn.trans {M : Nat → Prop} {a b c : World} (h : Turn M a b) (k : Turn M b c) : Turn M a c :=
  ⟨k.os.trans h.os, k.tape.trans h.tape, k.output.trans h.output, Nat.le_trans h.size k.size, fun i hi hM => (k.block i (Nat.lt_of_lt_of_le hi h.size) hM).trans (h.block i hi hM)⟩
theorem Turn.mono {M M' : Nat → Prop} {w w' : World} (h : Turn M w w') (hM : ∀ k, k < w.heap.size → M k → M' k) : Turn M' w w' :=
  ⟨h.os, h.tape, h.output, h.size, fun k hk hn => h.block k hk (fun x => hn (hM k hk x))⟩
theorem Turn.drew {M : Nat → Prop} {a w : World} (h : Turn M a w) : Turn M a w.drew := ⟨h.os, h.tape, h.output, h.size, h.block⟩
theorem Turn.alloc {M : Nat → Prop} {a w : World} (h : Turn M a w) (o : Obj) : Turn M a (w.alloc o) :=
  h.trans ⟨rfl, rfl, rfl, by simp, fun k hk _ => Below.heap_alloc _ _ _ hk⟩
theorem Turn.setCell {M : Nat → Prop} {a w : World} (h : Turn M a w) {p : Addr} (hp : M p.block ∨ a.heap.size ≤ p.block) (u : Value) : Turn M a (w.setCell p u) :=
  ⟨h.os, h.tape, h.output, by simpa [World.setCell] using h.size, fun k hk hM => by
    rw [Below.heap_setCell _ _ _ _ (fun e => by rcases hp with hp | hp; exact hM (e ▸ hp); omega)]
    exact h.block k hk hM⟩
theorem Turn.grown {M : Nat → Prop} {a w w' : World} {row : Option Nat} (h : Turn M a w) (hg : w.grownBy w' row) (hr : ∀ k, row = some k → M k ∨ a.heap.size ≤ k) : Turn M a w' :=
  ⟨hg.os.trans h.os, hg.tape.trans h.tape, hg.output.trans h.output, Nat.le_trans h.size hg.size, fun k hk hM => by
    rw [hg.block k (Nat.lt_of_lt_of_le hk h.size) (fun e => by rcases hr k e.symm with x | x; exact hM x; omega)]
    exact h.block k hk hM⟩
theorem Turn.below {M : Nat → Prop} {N : Nat} {w w' : World} (h : Turn M w w') (hN : N ≤ w.heap.size) (hM : ∀ k, M k → N ≤ k) : Below N w w' :=
  ⟨h.os, h.tape, h.output, h.size, fun k hk => h.block k (by omega) (fun x => by have := hM k x; omega)⟩
theorem Turn.of_below {N : Nat} {w w' : World} (h : Below N w w') : Turn (fun k => N ≤ k) w w' :=
  ⟨h.os, h.tape, h.output, h.size, fun k _ hM => h.block k (by omega)⟩

theorem IsBlk.turn {M : Nat → Prop} {w w' : World} {b : Nat} {cs : Array Value} {t : TypeId} (h : IsBlk w b cs t) (k : Turn M w w') (hb : ¬ M b) : IsBlk w' b cs t := h.same (k.block b h.lt hb)
theorem Turn.cell {M : Nat → Prop} {w w' : World} (h : Turn M w w') {b i : Nat} (hb : b < w.heap.size) (hM : ¬ M b) : w'.cell? ⟨b, i, none⟩ = w.cell? ⟨b, i, none⟩ := World.cell?_of_block (h.block b hb hM)
theorem Turn.frozen {M : Nat → Prop} {w w' : World} (h : Turn M w w') {b i : Nat} (hb : b < w.heap.size) (hM : ¬ M b) : w'.frozen? ⟨b, i, none⟩ = w.frozen? ⟨b, i, none⟩ := World.frozen?_of_block (h.block b hb hM)

theorem owns_turn {M : Nat → Prop} {w w' : World} {base : Nat} {e : TypeId} {size : Nat} {v : Value} {n : Nat} {xs : List Value} (h : w.ownsRow base e size v n xs) (k : Turn M w w') (hM : ∀ b, v.ownBlock = some b → ¬ M b) : w'.ownsRow base e size v n xs := by
  refine ⟨h.1, ?_⟩
  rcases h.2 with hn | ⟨g, cap, cur, rfl, hb, hg, r⟩
  · exact .inl hn
  · exact .inr ⟨g, cap, cur, rfl, hb, by rw [k.block g (Array.getElem?_eq_some_iff.1 hg).1 (hM g rfl)]; exact hg, r⟩
/-- A row and a block of another type lie apart. -/
theorem owns_ne {w : World} {base : Nat} {e : TypeId} {size : Nat} {v : Value} {n : Nat} {xs : List Value} (h : w.ownsRow base e size v n xs) {b : Nat} {cs : Array Value} {t : TypeId} (hb : IsBlk w b cs t) (ht : t ≠ e) : v.ownBlock ≠ some b := by
  rcases h.2 with ⟨rfl, _⟩ | ⟨g, cap, cur, rfl, _, hg, _⟩
  · simp [Value.ownBlock]
  · intro e2
    simp [Value.ownBlock] at e2
    subst e2
    exact IsBlk.ne hb hg ht rfl
theorem owns_owns_ne {w : World} {base base' : Nat} {e e' : TypeId} {size size' : Nat} {v v' : Value} {n n' : Nat} {xs xs' : List Value} (h : w.ownsRow base e size v n xs) (h' : w.ownsRow base' e' size' v' n' xs') (ht : e ≠ e') (b : Nat) (hb : v.ownBlock = some b) : v'.ownBlock ≠ some b := by
  rcases h.2 with ⟨rfl, _⟩ | ⟨g, cap, cur, rfl, _, hg, _⟩
  · simp [Value.ownBlock] at hb
  · simp [Value.ownBlock] at hb
    subst hb
    exact owns_ne h' (b := g) hg ht

/-- Nothing that lay has turned. -/
abbrev Grew : World → World → Prop := Turn (fun _ => False)
theorem Turn.drewN {M : Nat → Prop} {a w : World} (h : Turn M a w) (n : Nat) : Turn M a (w.drewN n) := ⟨h.os, h.tape, h.output, h.size, h.block⟩
theorem Turn.then {M M' : Nat → Prop} {a b c : World} (h : Turn M a b) (k : Turn M' b c) (hM : ∀ i, i < a.heap.size → M' i → M i) : Turn M a c :=
  ⟨k.os.trans h.os, k.tape.trans h.tape, k.output.trans h.output, Nat.le_trans h.size k.size, fun i hi hn => (k.block i (Nat.lt_of_lt_of_le hi h.size) (fun x => hn (hM i hi x))).trans (h.block i hi hn)⟩
theorem Turn.set1 (w : World) (b i : Nat) (v : Value) : Turn (· = b) w (w.setCell ⟨b, i, none⟩ v) := (Turn.refl (· = b) w).setCell (p := ⟨b, i, none⟩) (Or.inl rfl) v
theorem Turn.of_grew {M : Nat → Prop} {w w' : World} (h : Grew w w') : Turn M w w' := h.mono (fun _ _ x => x.elim)
theorem Turn.grew {M : Nat → Prop} {a w w' : World} (h : Turn M a w) (k : Grew w w') : Turn M a w' := h.trans (Turn.of_grew k)

/-- w' is w, some draws on, with some blocks laid behind it. -/
def Grn (w w' : World) : Prop := ∃ q os, w' = grow (w.drewN q) os
theorem Grn.refl (w : World) : Grn w w := ⟨0, #[], by simp [World.drewN]⟩
theorem Grn.trans {a b c : World} (h : Grn a b) (k : Grn b c) : Grn a c := by
  obtain ⟨q, os, rfl⟩ := h
  obtain ⟨q', os', rfl⟩ := k
  refine ⟨q + q', os ++ os', ?_⟩
  show grow (grow ((a.drewN q).drewN q') os) os' = _
  rw [grow_grow, World.drewN_drewN]
theorem Grn.drewN {a b : World} (h : Grn a b) (n : Nat) : Grn a (b.drewN n) := h.trans ⟨n, #[], by simp⟩
theorem Grn.drew {a b : World} (h : Grn a b) : Grn a b.drew := h.drewN 1
theorem Grn.alloc {a b : World} (h : Grn a b) (o : Obj) : Grn a (b.alloc o) := h.trans ⟨0, #[o], by rw [alloc_eq_grow]; rfl⟩
theorem Grn.grow {a b : World} (h : Grn a b) (n : Nat) (os : Array Obj) : Grn a (grow (b.drewN n) os) := h.trans ⟨n, os, rfl⟩
theorem Grn.grew {w w' : World} (h : Grn w w') : Grew w w' := by
  obtain ⟨q, os, rfl⟩ := h
  exact ⟨rfl, rfl, rfl, by simp [World.drewN], fun k hk _ => heap_grow_old _ _ hk⟩
theorem Grn.block {w w' : World} (h : Grn w w') {k : Nat} (hk : k < w.heap.size) : w'.heap[k]? = w.heap[k]? := h.grew.block k hk id
theorem IsBlk.grn {w w' : World} {b : Nat} {cs : Array Value} {t : TypeId} (h : IsBlk w b cs t) (k : Grn w w') : IsBlk w' b cs t := h.same (k.block h.lt)
theorem rangeAt_same {w w' : World} {b o : Nat} {cs : List Value} (h : w.rangeAt b o cs) (e : w'.heap[b]? = w.heap[b]?) : w'.rangeAt b o cs := fun j v hv => by
  rw [World.cell?_of_block (a := ⟨b, o + j, none⟩) e]; exact h j v hv
theorem Grn.rangeAt {w w' : World} (h : Grn w w') {b o : Nat} {cs : List Value} (hb : b < w.heap.size) (k : w.rangeAt b o cs) : w'.rangeAt b o cs := rangeAt_same k (h.block hb)
/-- A change in a block that was laid since is a block laid otherwise. -/
theorem Grn.setCell {a w : World} (h : Grn a w) {p : Addr} (hp : a.heap.size ≤ p.block) (u : Value) : Grn a (w.setCell p u) := by
  obtain ⟨q, os, rfl⟩ := h
  exact ⟨q, os.modify (p.block - a.heap.size) (fun | .cells c elem frozen => .cells (if p.spot.isSome then c else c.setIfInBounds p.off u) elem frozen | o => o), by
    simp only [World.setCell, Go.Sort.grow]
    rw [modify_append_right _ _ _ _ (by exact hp)]
    rfl⟩
end Go.Proofs.YbulkdevoGreat
