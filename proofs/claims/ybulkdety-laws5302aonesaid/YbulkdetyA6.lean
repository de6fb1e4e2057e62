import Derived.Test.YbulkdetyA5
import Derived.Test.YbulkdetyC1
namespace Go.Proofs.Ybulkdety
open Go.RowKit Go.Lib

/-- A new array: its header at A, its one page's slice at S, its page at P. -/
structure ArrNew (A S P cap n : Nat) (w w' : World) : Prop where
  below : Below w.heap.size w w'
  hA : w.heap.size ≤ A
  hAP : A < P
  hPS : P < S
  hS : S < w'.heap.size
  a0 : w'.cell? ⟨A, 0, none⟩ = some (.slice (some ⟨S, 0, none⟩) 1 1)
  a1 : w'.cell? ⟨A, 1, none⟩ = some (.int .i64 n)
  a2 : w'.cell? ⟨A, 2, none⟩ = some (.int .i64 cap)
  a3 : w'.cell? ⟨A, 3, none⟩ = some (.slice none 0 0)
  a4 : w'.cell? ⟨A, 4, none⟩ = some (.int .u8 0)
  a5 : w'.cell? ⟨A, 5, none⟩ = some (.int .i64 0)
  a6 : w'.cell? ⟨A, 6, none⟩ = some (.pointer none)
  fa : ∀ i, w'.frozen? ⟨A, i, none⟩ = false
  s0 : w'.cell? ⟨S, 0, none⟩ = some (.slice (some ⟨P, 0, none⟩) cap cap)
  fs : ∀ i, w'.frozen? ⟨S, i, none⟩ = false
  p0 : ∀ i c, i < cap → c < 8 → w'.cell? ⟨P, i * 24 + c, none⟩ = some (.int .u8 0)
  fp : ∀ i, w'.frozen? ⟨P, i, none⟩ = false
  blkA : IsBlk w' A #[.slice (some ⟨S, 0, none⟩) 1 1, .int .i64 n, .int .i64 cap, .slice none 0 0, .int .u8 0, .int .i64 0, .pointer none, .int .u32 0] 37
  blkS : IsBlk w' S #[.slice (some ⟨P, 0, none⟩) cap cap] 51
  blkP : ∃ cs, IsBlk w' P cs 50

theorem arrNew_mk (A cap n : Nat) (w w1 : World) (hA : A = w.heap.size) (hB : Below w.heap.size w w1) (hsz : w1.heap.size = A + 2)
    (b0 : ∃ v, w1.cell? ⟨A, 0, none⟩ = some v) (b1 : w1.cell? ⟨A, 1, none⟩ = some (.int .i64 n)) (b2 : ∃ v, w1.cell? ⟨A, 2, none⟩ = some v) (b3 : w1.cell? ⟨A, 3, none⟩ = some (.slice none 0 0))
    (b4 : w1.cell? ⟨A, 4, none⟩ = some (.int .u8 0)) (b5 : w1.cell? ⟨A, 5, none⟩ = some (.int .i64 0)) (b6 : w1.cell? ⟨A, 6, none⟩ = some (.pointer none)) (bf : ∀ i, w1.frozen? ⟨A, i, none⟩ = false)
    (hc : ∀ i c, i < cap → c < 8 → w1.cell? ⟨A + 1, i * 24 + c, none⟩ = some (.int .u8 0)) (hf : ∀ i, w1.frozen? ⟨A + 1, i, none⟩ = false)
    (hbP : ∃ cs, IsBlk w1 (A + 1) cs 50) (hbA : IsBlk w1 A #[.slice none 0 0, .int .i64 n, .int .i64 n, .slice none 0 0, .int .u8 0, .int .i64 0, .pointer none, .int .u32 0] 37) :
    ArrNew A (A + 2) (A + 1) cap n w (((w1.setCell ⟨A, 2, none⟩ (.int .i64 cap)).setCell ⟨A, 0, none⟩ (.slice (some ⟨A + 2, 0, none⟩) 1 1)).alloc (.cells #[.slice (some ⟨A + 1, 0, none⟩) cap cap] 51)) := by
  have hz : ((w1.setCell ⟨A, 2, none⟩ (.int .i64 cap)).setCell ⟨A, 0, none⟩ (.slice (some ⟨A + 2, 0, none⟩) 1 1)).heap.size = A + 2 := by simp [World.setCell, hsz]
  have old : ∀ b i, b < A + 2 → (((w1.setCell ⟨A, 2, none⟩ (.int .i64 cap)).setCell ⟨A, 0, none⟩ (.slice (some ⟨A + 2, 0, none⟩) 1 1)).alloc (.cells #[.slice (some ⟨A + 1, 0, none⟩) cap cap] 51)).cell? ⟨b, i, none⟩ =
      ((w1.setCell ⟨A, 2, none⟩ (.int .i64 cap)).setCell ⟨A, 0, none⟩ (.slice (some ⟨A + 2, 0, none⟩) 1 1)).cell? ⟨b, i, none⟩ := fun b i h => World.cell?_alloc_past _ _ _ (by rw [hz]; exact h)
  have oldf : ∀ b i, b < A + 2 → (((w1.setCell ⟨A, 2, none⟩ (.int .i64 cap)).setCell ⟨A, 0, none⟩ (.slice (some ⟨A + 2, 0, none⟩) 1 1)).alloc (.cells #[.slice (some ⟨A + 1, 0, none⟩) cap cap] 51)).frozen? ⟨b, i, none⟩ = w1.frozen? ⟨b, i, none⟩ := fun b i h => by
    rw [World.frozen?_alloc_past _ _ _ (by rw [hz]; exact h)]; simp
  have far : ∀ b i, (b ≠ A ∨ (i ≠ 0 ∧ i ≠ 2)) → ((w1.setCell ⟨A, 2, none⟩ (.int .i64 cap)).setCell ⟨A, 0, none⟩ (.slice (some ⟨A + 2, 0, none⟩) 1 1)).cell? ⟨b, i, none⟩ = w1.cell? ⟨b, i, none⟩ := fun b i h => by
    rw [World.cell?_setCell_other _ _ _ _ (by simp; omega), World.cell?_setCell_other _ _ _ _ (by simp; omega)]
  obtain ⟨v0, b0⟩ := b0
  obtain ⟨v2, b2⟩ := b2
  refine ⟨?_, by omega, by omega, by omega, by simp [World.setCell, hsz], ?_, ?_, ?_, ?_, ?_, ?_, ?_, ?_, ?_, ?_, ?_, ?_, ?_, ?_, ?_⟩
  · exact ((hB.setCell (p := ⟨A, 2, none⟩) (by simp; omega) _).setCell (p := ⟨A, 0, none⟩) (by simp; omega) _).alloc (by rw [hz]; omega) _
  · rw [old _ _ (by omega)]
    exact World.cell?_setCell_same (u := v0) _ _ _ ((World.cell?_setCell_other _ _ _ _ (by simp)).trans b0)
  · rw [old _ _ (by omega), far _ _ (by omega)]; exact b1
  · rw [old _ _ (by omega), World.cell?_setCell_other _ _ _ _ (by simp)]
    exact World.cell?_setCell_same _ _ _ b2
  · rw [old _ _ (by omega), far _ _ (by omega)]; exact b3
  · rw [old _ _ (by omega), far _ _ (by omega)]; exact b4
  · rw [old _ _ (by omega), far _ _ (by omega)]; exact b5
  · rw [old _ _ (by omega), far _ _ (by omega)]; exact b6
  · intro i; rw [oldf _ _ (by omega)]; exact bf i
  · exact World.cell?_alloc_at _ _ _ _ hz.symm
  · intro i; exact World.frozen?_alloc_at _ _ _ _ hz.symm
  · intro i c hi hc8; rw [old _ _ (by omega), far _ _ (by omega)]; exact hc i c hi hc8
  · intro i; rw [oldf _ _ (by omega)]; exact hf i
  · exact ((hbA.set 2 _).set 0 _).same (Below.heap_alloc _ _ _ (by rw [hz]; omega))
  · have h := IsBlk.new ((w1.setCell ⟨A, 2, none⟩ (.int .i64 cap)).setCell ⟨A, 0, none⟩ (.slice (some ⟨A + 2, 0, none⟩) 1 1)) #[.slice (some ⟨A + 1, 0, none⟩) cap cap] 51
    rw [hz] at h
    exact h
  · obtain ⟨cs, hP⟩ := hbP
    exact ⟨cs, hP.same ((Below.heap_alloc _ _ _ (by rw [hz]; omega)).trans ((Below.heap_setCell _ _ _ _ (by simp)).trans (Below.heap_setCell _ _ _ _ (by simp))))⟩

set_option maxHeartbeats 400000 in
set_option maxRecDepth 100000 in
theorem newGrowth_any (b n : Nat) (hb8 : b < 8) (hn : wrap64 (2 ^ b) = (n : Int)) (h1 : 1 ≤ n) (h2 : n ≤ 128) (w : World) :
    Calls Yba.prog 13 #[.int .u8 b] w fun e w' => ∃ A S P cap, n ≤ cap ∧ cap ≤ maxLen ∧ e = .returned (.pointer (some ⟨A, 0, none⟩)) ∧ ArrNew A S P cap n w w' := by
  go_enter Yba.func13, Yba.ntmps13
  go_wp2_with fail
  refine (grow_nil n h1 (by omega) _).mono ?_
  rintro e w1 ⟨cap, P, hc1, hc2, rfl, hp⟩
  obtain ⟨hb, hP, hz, hcell, hfz, hbP⟩ := hp
  have hsz : w1.heap.size = w.heap.size + 2 := by rw [hz]; simp
  have hPe : P = w.heap.size + 1 := by rw [hP]; simp
  clear hP hz
  subst hPe
  have b0 : w1.cell? ⟨w.heap.size, 0, none⟩ = some (.slice none 0 0) := by rw [hb.cell (p := ⟨w.heap.size, 0, none⟩) (by simp)]; simp
  have b1 : w1.cell? ⟨w.heap.size, 1, none⟩ = some (.int .i64 n) := by rw [hb.cell (p := ⟨w.heap.size, 1, none⟩) (by simp)]; simp
  have b2 : w1.cell? ⟨w.heap.size, 2, none⟩ = some (.int .i64 n) := by rw [hb.cell (p := ⟨w.heap.size, 2, none⟩) (by simp)]; simp
  have b3 : w1.cell? ⟨w.heap.size, 3, none⟩ = some (.slice none 0 0) := by rw [hb.cell (p := ⟨w.heap.size, 3, none⟩) (by simp)]; simp
  have b4 : w1.cell? ⟨w.heap.size, 4, none⟩ = some (.int .u8 0) := by rw [hb.cell (p := ⟨w.heap.size, 4, none⟩) (by simp)]; simp
  have b5 : w1.cell? ⟨w.heap.size, 5, none⟩ = some (.int .i64 0) := by rw [hb.cell (p := ⟨w.heap.size, 5, none⟩) (by simp)]; simp
  have b6 : w1.cell? ⟨w.heap.size, 6, none⟩ = some (.pointer none) := by rw [hb.cell (p := ⟨w.heap.size, 6, none⟩) (by simp)]; simp
  have bf : ∀ i, w1.frozen? ⟨w.heap.size, i, none⟩ = false := fun i => by rw [hb.frozen (p := ⟨w.heap.size, i, none⟩) (by simp)]; simp
  have bA : IsBlk w1 w.heap.size #[.slice none 0 0, .int .i64 n, .int .i64 n, .slice none 0 0, .int .u8 0, .int .i64 0, .pointer none, .int .u32 0] 37 := by
    have h := IsBlk.new w #[.slice none 0 0, .int .i64 n, .int .i64 n, .slice none 0 0, .int .u8 0, .int .i64 0, .pointer none, .int .u32 0] 37
    exact h.same (hb.block _ (by simp))
  have hbel : Below w.heap.size w w1 := ((Below.refl _ _).alloc (Nat.le_refl _) _).trans (hb.mono (by simp))
  have hc3 : cap ≤ 9223372036854775807 := by unfold maxLen at hc2; omega
  clear hb
  have HA : Hid (ArrNew w.heap.size (w.heap.size + 2) (w.heap.size + 1) cap n w (((w1.setCell ⟨w.heap.size, 2, none⟩ (.int .i64 cap)).setCell ⟨w.heap.size, 0, none⟩ (.slice (some ⟨w.heap.size + 2, 0, none⟩) 1 1)).alloc (.cells #[.slice (some ⟨w.heap.size + 1, 0, none⟩) cap cap] 51))) :=
    arrNew_mk w.heap.size cap n w w1 rfl hbel hsz ⟨_, b0⟩ b1 ⟨_, b2⟩ b3 b4 b5 b6 bf hcell hfz hbP bA
  have HM : Hid (cap ≤ maxLen) := hc2
  clear hbel hcell hfz hc2 hn bA hbP
  go_wp2_with fail
  go_ret
  exact ⟨_, _, _, cap, hc1, HM.out, rfl, HA.out⟩
end Go.Proofs.Ybulkdety
