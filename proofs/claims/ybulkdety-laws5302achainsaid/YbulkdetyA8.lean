import Derived.Test.YbulkdetyA7
namespace Go.Proofs.Ybulkdety
open Go.RowKit Go.Lib

/-- An array without overflow buckets: its header at A, its page's slice at S, its page at P, whose buckets' top hashes are T. -/
structure ArrIs (A S P cap n : Nat) (T : Nat → Nat → Int) (w w' : World) : Prop where
  below : Below w.heap.size w w'
  hA : w.heap.size ≤ A
  hAP : A < P
  hPS : P < S
  hS : S < w'.heap.size
  a0 : w'.cell? ⟨A, 0, none⟩ = some (.slice (some ⟨S, 0, none⟩) 1 1)
  a1 : w'.cell? ⟨A, 1, none⟩ = some (.int .i64 n)
  a2 : w'.cell? ⟨A, 2, none⟩ = some (.int .i64 cap)
  a5 : w'.cell? ⟨A, 5, none⟩ = some (.int .i64 0)
  s0 : w'.cell? ⟨S, 0, none⟩ = some (.slice (some ⟨P, 0, none⟩) cap cap)
  p0 : ∀ i c, i < cap → c < 8 → w'.cell? ⟨P, i * 24 + c, none⟩ = some (.int .u8 (T i c))
  fp : ∀ i, w'.frozen? ⟨P, i, none⟩ = false

theorem ArrNew.is {A S P cap n : Nat} {w w' : World} (h : ArrNew A S P cap n w w') : ArrIs A S P cap n (fun _ _ => 0) w w' :=
  ⟨h.below, h.hA, h.hAP, h.hPS, h.hS, h.a0, h.a1, h.a2, h.a5, h.s0, h.p0, h.fp⟩

/-- The top hashes behind k fills. -/
def topAt (len : Nat) (g : Nat → Int) (k i c : Nat) : Int := if i < k ∧ i * 8 + c < len then g (i * 8 + c) else 0

theorem ArrIs.filled {A S P cap n len k : Nat} {g : Nat → Int} {w w1 w2 : World} (h : ArrIs A S P cap n (topAt len g k) w w1) (hk : k < cap) (hF : Filled P (k * 24) len (k * 8) 8 g w1 w2) : ArrIs A S P cap n (topAt len g (k + 1)) w w2 := by
  have hAP := h.hAP
  have hPS := h.hPS
  have hA := h.hA
  refine ⟨h.below.trans (hF.below.mono (by omega)), h.hA, h.hAP, h.hPS, by rw [hF.size]; exact h.hS, ?_, ?_, ?_, ?_, ?_, ?_, fun i => (hF.frz P i).trans (h.fp i)⟩
  · rw [hF.other _ _ (by omega)]; exact h.a0
  · rw [hF.other _ _ (by omega)]; exact h.a1
  · rw [hF.other _ _ (by omega)]; exact h.a2
  · rw [hF.other _ _ (by omega)]; exact h.a5
  · rw [hF.other _ _ (by omega)]; exact h.s0
  · intro i c hi hc
    by_cases e : i = k
    · subst e
      rw [hF.here c hc]
      by_cases hin : i * 8 + c < len
      · rw [if_pos ⟨hc, hin⟩]; simp only [topAt]; rw [if_pos (by omega)]
      · rw [if_neg (by omega), h.p0 i c hi hc]; simp only [topAt]; rw [if_neg (by omega), if_neg (by omega)]
    · rw [hF.other _ _ (by omega), h.p0 i c hi hc]
      simp only [topAt]
      by_cases hin : i < k ∧ i * 8 + c < len
      · rw [if_pos hin, if_pos (by omega)]
      · rw [if_neg hin, if_neg (by omega)]

theorem ArrIs.grows {A S P cap n : Nat} {T : Nat → Nat → Int} {w w1 w2 : World} (h : ArrIs A S P cap n T w w1) (hB : Below w1.heap.size w1 w2) : ArrIs A S P cap n T w w2 := by
  have hAP := h.hAP
  have hPS := h.hPS
  have hS := h.hS
  have hz := hB.size
  refine ⟨h.below.trans (hB.mono h.below.size), h.hA, h.hAP, h.hPS, by omega, ?_, ?_, ?_, ?_, ?_, ?_, ?_⟩
  · rw [hB.cell (p := ⟨A, 0, none⟩) (by simp only; omega)]; exact h.a0
  · rw [hB.cell (p := ⟨A, 1, none⟩) (by simp only; omega)]; exact h.a1
  · rw [hB.cell (p := ⟨A, 2, none⟩) (by simp only; omega)]; exact h.a2
  · rw [hB.cell (p := ⟨A, 5, none⟩) (by simp only; omega)]; exact h.a5
  · rw [hB.cell (p := ⟨S, 0, none⟩) (by simp only; omega)]; exact h.s0
  · intro i c hi hc
    rw [hB.cell (p := ⟨P, i * 24 + c, none⟩) (by simp only; omega)]; exact h.p0 i c hi hc
  · intro i
    rw [hB.frozen (p := ⟨P, i, none⟩) (by simp only; omega)]; exact h.fp i

set_option maxHeartbeats 400000 in
theorem next_none (A : Nat) (i : Int) (w : World) (h : w.cell? ⟨A, 5, none⟩ = some (.int .i64 0)) :
    Calls Yba.prog 15 #[.pointer (some ⟨A, 0, none⟩), .int .i64 i] w fun e w' => e = .returned (.int .i64 (-1)) ∧ w' = w := by
  go_enter Yba.func15, Yba.ntmps15
  go_wp2_with (go_at_call 20; refine (linksnext_none i A _ h).mono ?_; rintro e w' ⟨rfl, rfl⟩)
  go_ret
  exact ⟨rfl, rfl⟩

theorem topAt_rng (len : Nat) (g : Nat → Int) (hg : ∀ i, 0 ≤ g i ∧ g i ≤ 255) (k i c : Nat) : 0 ≤ topAt len g k i c ∧ topAt len g k i c ≤ 255 := by
  unfold topAt; split
  · exact hg _
  · omega

theorem arr_chained {A S P cap n len : Nat} {g : Nat → Int} (hg : ∀ i, 0 ≤ g i ∧ g i ≤ 255) (w : World) (hnc : n ≤ cap) (hn : n ≤ 128) :
    Chained A (fun W => ArrIs A S P cap n (topAt len g n) w W) (fun j => j < n) (fun _ => -1) (fun j => (P, j * 24)) (topAt len g n) where
  at_ := fun W j hI hj => at_page A S P j cap W hI.a0 hI.a2 hI.s0 (by omega) (by omega)
  next := fun W j hI hj => (next_none A j W hI.a5).mono fun e w' ⟨he, hw⟩ => ⟨he, by rw [hw]; exact hI, by rw [hw]; exact Below.refl _ _⟩
  cell := fun W j c hI hj hc => hI.p0 j c (by omega) hc
  rng := fun j c => topAt_rng len g hg n j c

theorem tops5_eq (len : Nat) (g : Nat → Int) (n i k : Nat) (hi : i < n) : tops5 (topAt len g n i) k = cnt len g (i * 8) k := by
  induction k with
  | zero => rfl
  | succ k ih =>
    by_cases h : i * 8 + k < len
    · have e : topAt len g n i k = g (i * 8 + k) := by unfold topAt; rw [if_pos ⟨hi, h⟩]
      have e2 : occ len g (i * 8 + k) = if 5 ≤ g (i * 8 + k) then 1 else 0 := by unfold occ; rw [if_pos h]
      simp only [tops5, cnt, ih, e, e2]
    · have e : topAt len g n i k = 0 := by unfold topAt; rw [if_neg (by omega)]
      have e2 : occ len g (i * 8 + k) = 0 := by unfold occ; rw [if_neg h]
      simp only [tops5, cnt, ih, e, e2]
      simp
end Go.Proofs.Ybulkdety
