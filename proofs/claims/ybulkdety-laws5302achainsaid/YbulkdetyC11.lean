import Derived.Test.YbulkdetyC10
namespace Go.Proofs.Ybulkdety
open Go.RowKit Go.Lib
set_option linter.unusedVariables false

/-- A block of sixteen new buckets. -/
def b16 : Array Value := Builtin.zeroCells bzero 16
def b16r : Array Value := #[.agg bzero, .agg bzero, .agg bzero, .agg bzero, .agg bzero, .agg bzero, .agg bzero, .agg bzero, .agg bzero, .agg bzero, .agg bzero, .agg bzero, .agg bzero, .agg bzero, .agg bzero, .agg bzero]
theorem zero62 (w : World) : (zeroValue 62).run Yba.prog w = .ok (.agg b16) w := by kernel_rfl

set_option maxHeartbeats 1000000 in
theorem makeExtra_none (A S n cap c X e : Nat) (sg : Value) (sh : Int) (w : World)
    (hA : IsBlk w A (hdr S n cap sg sh c (.pointer (some ⟨X, 0, none⟩))) 37) (h1 : 16 < e) (h2 : e < 48) (h3 : e ≠ 32) :
    Calls Yba.prog 16 #[.pointer (some ⟨A, 0, none⟩), .int .i64 e] w fun e w' => e = .returned (.tuple #[]) ∧ w' = w := by
  have a6 : w.cell? ⟨A, 6, none⟩ = some (.pointer (some ⟨X, 0, none⟩)) := (hA.cell 6).trans rfl
  have h4 : (((e : Int) - 16) % 16 == 0) = false := by simp; omega
  clear hA
  go_enter Yba.func16, Yba.ntmps16
  go_wp2_with fail
  go_end0
  exact ⟨rfl, rfl⟩

set_option maxHeartbeats 1000000 in
theorem makeExtra_block1 (B A S n cap c X : Nat) (sg sv : Value) (sh : Int) (w : World) (hB : B ≤ w.heap.size)
    (hA : IsBlk w A (hdr S n cap sg sh c (.pointer (some ⟨X, 0, none⟩))) 37) (hX : IsBlk w X #[sv, .slice none 0 0] 57) :
    Calls Yba.prog 16 #[.pointer (some ⟨A, 0, none⟩), .int .i64 16] w fun e w' => e = .returned (.tuple #[]) ∧ ∃ vv' b, w.heap.size ≤ b ∧ IsBlk w' X #[sv, vv'] 57 ∧ Shelf B w' vv' [b] ∧ IsBlk w' b b16 62 ∧ Turn (fun k => k = X) w w' := by
  have a6 : w.cell? ⟨A, 6, none⟩ = some (.pointer (some ⟨X, 0, none⟩)) := (hA.cell 6).trans rfl
  have hal := zero62
  clear hA
  go_enter Yba.func16, Yba.ntmps16
  go_wp2_with fail
  have t0 : Turn (fun _ => False) w (w.alloc (.cells b16 62)) := (Turn.refl _ _).alloc _
  refine (shelf_first B X w.heap.size sv _ (by simp; omega) (hX.turn t0 (by simp))).mono ?_
  rintro e w1 ⟨rfl, vv', g1, g2, g3⟩
  have HE : Hid (∃ vv' b, w.heap.size ≤ b ∧ IsBlk w1 X #[sv, vv'] 57 ∧ Shelf B w1 vv' [b] ∧ IsBlk w1 b b16 62 ∧ Turn (fun k => k = X) w w1) :=
    ⟨vv', w.heap.size, Nat.le_refl _, g1, g2, (IsBlk.new w b16 62).turn g3 (by have := hX.lt; omega), (t0.mono (fun _ _ h => h.elim)).trans g3⟩
  clear g1 g2 g3 hX t0
  go_wp2_with fail
  go_end0
  exact ⟨rfl, HE.out⟩

set_option maxHeartbeats 1000000 in
theorem makeExtra_block2 (B A S n cap c X b0 : Nat) (sg sv vv : Value) (sh : Int) (w : World) (hB : B ≤ w.heap.size)
    (hA : IsBlk w A (hdr S n cap sg sh c (.pointer (some ⟨X, 0, none⟩))) 37) (hX : IsBlk w X #[sv, vv] 57) (hSh : Shelf B w vv [b0]) :
    Calls Yba.prog 16 #[.pointer (some ⟨A, 0, none⟩), .int .i64 32] w fun e w' => e = .returned (.tuple #[]) ∧ ∃ b, w.heap.size ≤ b ∧ IsBlk w' X #[sv, vv] 57 ∧ Shelf B w' vv [b0, b] ∧ IsBlk w' b b16 62 ∧ Turn (fun k => ∃ uv, w.ownsRow B 59 1 vv 1 [uv] ∧ (vv.ownBlock = some k ∨ uv.ownBlock = some k)) w w' := by
  have a6 : w.cell? ⟨A, 6, none⟩ = some (.pointer (some ⟨X, 0, none⟩)) := (hA.cell 6).trans rfl
  have hal := zero62
  clear hA
  go_enter Yba.func16, Yba.ntmps16
  go_wp2_with fail
  have t0 : Turn (fun _ => False) w (w.alloc (.cells b16 62)) := (Turn.refl _ _).alloc _
  have hSh1 : Shelf B (w.alloc (.cells b16 62)) vv [b0] := by
    obtain ⟨uv, h1, h2⟩ := hSh
    exact ⟨uv, h1.alloc _, h2.alloc _⟩
  refine (shelf_second B X w.heap.size b0 sv vv _ (by simp; omega) (hX.turn t0 (by simp)) hSh1).mono ?_
  rintro e w1 ⟨rfl, g1, g2, g3⟩
  have HE : Hid (∃ b, w.heap.size ≤ b ∧ IsBlk w1 X #[sv, vv] 57 ∧ Shelf B w1 vv [b0, b] ∧ IsBlk w1 b b16 62 ∧ Turn (fun k => ∃ uv, w.ownsRow B 59 1 vv 1 [uv] ∧ (vv.ownBlock = some k ∨ uv.ownBlock = some k)) w w1) := by
    obtain ⟨uv, k1, k2⟩ := hSh
    have same : ∀ uv', (w.alloc (.cells b16 62)).ownsRow B 59 1 vv 1 [uv'] → uv' = uv := by
      intro uv' h
      obtain ⟨V, cV, rfl⟩ := owns_succ k1
      have c1 := k1.cellAt 0 (by omega)
      have c2 := h.cellAt 0 (by omega)
      rw [World.cell?_alloc_past _ _ _ (k1.lt V rfl).2] at c2
      rw [c1] at c2
      simpa using c2.symm
    refine ⟨w.heap.size, Nat.le_refl _, g1, g2, (IsBlk.new w b16 62).turn g3 ?_, (t0.mono (fun _ _ h => h.elim)).then g3 (fun k hk h => ?_)⟩
    · rintro ⟨uv', h1, h2⟩
      obtain rfl := same uv' h1
      rcases h2 with h2 | h2
      · have := (k1.lt _ h2).2; omega
      · have := (k2.lt _ h2).2; omega
    · obtain ⟨uv', h1, h2⟩ := h
      obtain rfl := same uv' h1
      exact ⟨uv', k1, h2⟩
  clear g1 g2 g3 hX t0 hSh hSh1
  go_wp2_with fail
  go_end0
  exact ⟨rfl, HE.out⟩
end Go.Proofs.Ybulkdety
