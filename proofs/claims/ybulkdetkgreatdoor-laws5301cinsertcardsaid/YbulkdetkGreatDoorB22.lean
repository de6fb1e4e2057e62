/- The script as it came in. -/
import Derived.Test.YbulkdetkGreatDoorB21
import Derived.Deep.Slices
import Derived.Deep.Strs
namespace Go.Proofs.YbulkdetkGreatDoor
open Go.ChangeShapes Go.WideShapes Go.RowKit Go.Deep
set_option linter.unusedVariables false
set_option linter.unusedSimpArgs false

theorem cells90 : Ybaz.prog.cellsOf 90 = 3 := by kernel_rfl
theorem cells5 : Ybaz.prog.cellsOf 5 = 1 := by kernel_rfl

set_option maxRecDepth 100000 in
theorem ops_of_trod {H : Type} {enc : TypeId × Value → H} {W : World} {spare : Nat → Bool} {held : Bool} {fuel : Nat} {a : Option Addr} {len cap : Nat} {x : DataW H × List MemPlace} (h : DataW.trod enc Ybaz.prog W 0 spare held fuel 22 [.slice a len cap] = some x) :
    len ≤ 9223372036854775807 ∧ ∃ fm fg fi, Ops W.heap.size W a len fm fg fi := by
  rcases open_slice Ybaz.underlying22 h with ⟨hcs, _⟩ | ⟨ad, l, c, m, n, D, Pl, hcs, _, hl, hm, hmm, _, hx⟩
  · simp at hcs
    obtain ⟨rfl, rfl, rfl⟩ := hcs
    exact ⟨by omega, fun _ => 0, fun _ => false, fun _ => false, fun _ => by simp, .inl rfl⟩
  · simp at hcs
    obtain ⟨rfl, rfl, rfl⟩ := hcs
    have hlm : len ≤ m := by rw [hmm]; split <;> omega
    refine ⟨by unfold maxLen at hm; omega, ?_⟩
    by_cases h0 : len = 0
    · exact ⟨fun _ => 0, fun _ => false, fun _ => false, fun _ => by simp, .inl h0⟩
    have each : ∀ i, i < len → ∃ q : Nat × Bool × Bool, q.1 < 256 ∧ W.cell? (ad.add (i * 3)) = some (.int .u8 (q.1 : Nat)) ∧ W.cell? (ad.add (i * 3 + 1)) = some (.bool q.2.1) ∧ W.cell? (ad.add (i * 3 + 2)) = some (.bool q.2.2) := by
      intro i hi
      obtain ⟨cs', h1, h2⟩ := hx i (by omega)
      rw [cells90] at h1
      obtain ⟨_, hlen, hcell⟩ := World.cells?_some h1
      obtain ⟨y0, y1, y2, k, _, _, g0, g1, g2⟩ := trod_struct3 Ybaz.underlying90 h2
      match cs', hlen with
      | [v0, v1, v2], _ =>
        simp [cells5, cells4] at g0 g1 g2
        obtain ⟨z, e0, _, wz⟩ := DataW.trod_int Ybaz.underlying5 g0
        obtain ⟨b1, e1, _⟩ := DataW.trod_bool Ybaz.underlying4 g1
        obtain ⟨b2, e2, _⟩ := DataW.trod_bool Ybaz.underlying4 g2
        simp at e0 e1 e2
        subst e0; subst e1; subst e2
        have bz := bounds_u8 wz
        have c0 := hcell 0 (by omega)
        have c1 := hcell 1 (by omega)
        have c2 := hcell 2 (by omega)
        rw [add_add] at c0 c1 c2
        refine ⟨(z.toNat, b1, b2), by simp only; omega, ?_, by simpa using c1, by simpa using c2⟩
        have hz : ((z.toNat : Nat) : Int) = z := by omega
        simp only [hz]
        simpa using c0
    obtain ⟨f, hf⟩ := choose_lt each
    obtain ⟨b, off, sp⟩ := ad
    have hsp : sp = none := by
      have := (hf 0 (by omega)).2.1
      simpa [Addr.add] using World.cell?_spot this
    subst hsp
    have hblk : b < W.heap.size := by
      have := (hf 0 (by omega)).2.1
      by_cases hb : b < W.heap.size
      · exact hb
      · simp [World.cell?, Addr.add, Array.getElem?_eq_none (Nat.le_of_not_lt hb)] at this
    refine ⟨fun i => if i < len then (f i).1 else 0, fun i => (f i).2.1, fun i => (f i).2.2, fun i => ?_, .inr ⟨b, off, rfl, hblk, fun i hi => ?_⟩⟩
    · by_cases hi : i < len
      · simpa [hi] using (hf i hi).1
      · simp [hi]
    · obtain ⟨_, h1, h2, h3⟩ := hf i hi
      rw [Go.WideShapes.add_plain] at h1 h2 h3
      refine ⟨by simpa [hi] using h1, ?_, ?_⟩
      · rw [Nat.add_assoc]; exact h2
      · rw [Nat.add_assoc]; exact h3
end Go.Proofs.YbulkdetkGreatDoor
