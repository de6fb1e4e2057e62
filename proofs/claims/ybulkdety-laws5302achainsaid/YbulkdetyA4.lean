import Derived.Test.YbulkdetyA3
import Derived.Deep.LoopGhost
namespace Go.Proofs.Ybulkdety
open Go.RowKit

/-- The array of eight top hashes, as a value. -/
def tarr (t : Nat → Int) : Value := .agg #[.int .u8 (t 0), .int .u8 (t 1), .int .u8 (t 2), .int .u8 (t 3), .int .u8 (t 4), .int .u8 (t 5), .int .u8 (t 6), .int .u8 (t 7)]

/-- How many of the first k are at least five. -/
def tops5 (t : Nat → Int) : Nat → Nat
  | 0 => 0
  | k + 1 => tops5 t k + (if 5 ≤ t k then 1 else 0)
theorem tops5_le (t : Nat → Int) (k : Nat) : tops5 t k ≤ k := by
  induction k with
  | zero => exact Nat.le_refl _
  | succ k ih => simp only [tops5]; split <;> omega

theorem index_tarr (t : Nat → Int) (k : Nat) (hk : k < 8) (w : World) :
    (Instr.index 47 (.agg #[.int .u8 (t 0), .int .u8 (t 1), .int .u8 (t 2), .int .u8 (t 3), .int .u8 (t 4), .int .u8 (t 5), .int .u8 (t 6), .int .u8 (t 7)]) (.int .i64 (k : Int))).run Yba.prog w = .ok (.int .u8 (t k)) w := by
  obtain rfl | rfl | rfl | rfl | rfl | rfl | rfl | rfl : k = 0 ∨ k = 1 ∨ k = 2 ∨ k = 3 ∨ k = 4 ∨ k = 5 ∨ k = 6 ∨ k = 7 := by omega
  all_goals kernel_rfl

set_option maxHeartbeats 400000 in
theorem entries_neg (A : Nat) (i : Int) (w : World) (hi : i < 0) :
    Calls Yba.prog 8 #[.pointer (some ⟨A, 0, none⟩), .int .i64 i] w fun e w' => e = .returned (.int .i64 0) ∧ w' = w := by
  go_enter Yba.func8, Yba.ntmps8
  go_wp2
  go_loop [5, 6] (fun n j => n = .int .i64 0 ∧ j = .int .i64 i) (fun _ _ => 0)
  case atStart => exact ⟨rfl, rfl⟩
  case round =>
    obtain ⟨rfl, rfl⟩ := hrel
    go_wp2
    go_ret
    exact ⟨rfl, rfl⟩

/-- The sum over a chain. -/
def chainSum (t : Nat → Nat → Int) : List Nat → Nat
  | [] => 0
  | j :: js => tops5 (t j) 8 + chainSum t js
theorem chainSum_le (t : Nat → Nat → Int) (js : List Nat) : chainSum t js ≤ 8 * js.length := by
  induction js with
  | nil => exact Nat.le_refl _
  | cons j js ih => have := tops5_le (t j) 8; simp only [chainSum, List.length_cons]; omega

/-- Where the chain goes on from: its head, or -1. -/
def chainHead : List Nat → Int
  | [] => -1
  | j :: _ => (j : Int)

/-- What the walk of 'entries' asks of the world: each bucket of the chain is found by 'at', each link by 'next'; nothing of it turns by those calls. -/
structure Chained (A : Nat) (I : World → Prop) (D : Nat → Prop) (nx : Nat → Int) (loc : Nat → Nat × Nat) (t : Nat → Nat → Int) : Prop where
  at_ : ∀ W j, I W → D j → Calls Yba.prog 11 #[.pointer (some ⟨A, 0, none⟩), .int .i64 ((j : Nat) : Int)] W fun e w' => e = .returned (.pointer (some ⟨(loc j).1, (loc j).2, none⟩)) ∧ w' = W
  next : ∀ W j, I W → D j → Calls Yba.prog 15 #[.pointer (some ⟨A, 0, none⟩), .int .i64 ((j : Nat) : Int)] W fun e w' => e = .returned (.int .i64 (nx j)) ∧ I w' ∧ Below W.heap.size W w'
  cell : ∀ W j c, I W → D j → c < 8 → W.cell? ⟨(loc j).1, (loc j).2 + c, none⟩ = some (.int .u8 (t j c))
  rng : ∀ j c, 0 ≤ t j c ∧ t j c ≤ 255

/-- A chain: each bucket is there, and its link leads to the next one. -/
def IsChain (D : Nat → Prop) (nx : Nat → Int) : List Nat → Prop
  | [] => True
  | j :: js => D j ∧ nx j = chainHead js ∧ IsChain D nx js

theorem chainSum_snoc (t : Nat → Nat → Int) (l : List Nat) (j : Nat) : chainSum t (l ++ [j]) = chainSum t l + tops5 (t j) 8 := by
  induction l with
  | nil => simp [chainSum]
  | cons x l ih => simp only [List.cons_append, chainSum, ih]; omega

/-- The book-keeping of the outer loop. -/
def Along (D : Nat → Prop) (nx : Nat → Int) (t : Nat → Nat → Int) (js done rest : List Nat) (k : Nat) (x : Int) (m : Nat) : Prop :=
  js = done ++ rest ∧ k = rest.length ∧ IsChain D nx rest ∧ x = chainHead rest ∧ m = chainSum t done

set_option maxHeartbeats 1000000 in
theorem entries_core {A : Nat} {I : World → Prop} {D : Nat → Prop} {nx : Nat → Int} {loc : Nat → Nat × Nat} {t : Nat → Nat → Int} (hC : Chained A I D nx loc t) (js : List Nat) (hj : IsChain D nx js) (hl : js.length ≤ 1000) (w : World) (hI : I w)
    (i : Int) (S : Nat) (hi : Hid (i = chainHead js)) (hS : Hid (S = chainSum t js)) :
    Calls Yba.prog 8 #[.pointer (some ⟨A, 0, none⟩), .int .i64 i] w fun e w' => e = .returned (.int .i64 S) ∧ I w' ∧ Below w.heap.size w w' := by
  go_enter Yba.func8, Yba.ntmps8
  go_wp2
  go_loopg [5, 6] js.length (fun k n j wr => ∃ (done rest : List Nat) (x : Int) (m : Nat), Along D nx t js done rest k x m ∧ j = .int .i64 x ∧ n = .int .i64 m ∧ I wr ∧ Below w.heap.size w wr)
  case atStart => exact ⟨[], js, i, 0, ⟨rfl, rfl, hj, hi.out, rfl⟩, rfl, rfl, hI, Below.refl _ _⟩
  case round =>
    obtain ⟨done, rest, x, m, hAl, rfl, rfl, hIr, hB⟩ := hrel
    have hdl : done.length + rest.length ≤ 1000 := by rw [← List.length_append, ← hAl.1]; exact hl
    have hcs : m ≤ 8 * done.length := by rw [hAl.2.2.2.2]; exact chainSum_le t done
    cases rest with
    | nil =>
      have HE : Hid (S = m) := by
        obtain ⟨h1, _, _, _, h5⟩ := hAl
        show S = m
        rw [hS.out, h5, h1]; simp
      have hx : x < 0 := by rw [hAl.2.2.2.1]; decide
      clear hAl hj hl hI hC hi hS hdl
      go_wp2
      go_ret
      exact ⟨by rw [HE.out]; rfl, hIr, hB⟩
    | cons j rest =>
      obtain rfl : x = (j : Int) := hAl.2.2.2.1
      obtain ⟨hD, hnx, hch'⟩ := hAl.2.2.1
      have hrng := hC.rng j
      have c0 := hC.cell wr j 0 hIr hD (by omega)
      have c1 := hC.cell wr j 1 hIr hD (by omega)
      have c2 := hC.cell wr j 2 hIr hD (by omega)
      have c3 := hC.cell wr j 3 hIr hD (by omega)
      have c4 := hC.cell wr j 4 hIr hD (by omega)
      have c5 := hC.cell wr j 5 hIr hD (by omega)
      have c6 := hC.cell wr j 6 hIr hD (by omega)
      have c7 := hC.cell wr j 7 hIr hD (by omega)
      have HR : Hid (Along D nx t js (done ++ [j]) rest rest.length (nx j) (m + tops5 (t j) 8) ∧ rest.length < gk) := by
        obtain ⟨h1, h2, h3, h4, h5⟩ := hAl
        exact ⟨⟨by rw [h1]; simp, rfl, hch', hnx, by rw [chainSum_snoc, h5]⟩, by rw [h2]; simp⟩
      have ht8 := tops5_le (t j) 8
      clear hAl hnx hch' hj hI hl hS hi
      simp only [Nat.add_zero] at c0
      go_wp2_with (go_at_call 11; refine (hC.at_ wr j hIr hD).mono ?_; rintro e w' ⟨rfl, rfl⟩)
      clear c0 c1 c2 c3 c4 c5 c6 c7
      simp only [List.length_cons] at hdl
      go_loop [5, 21] (fun n c => ∃ k : Nat, k ≤ 8 ∧ c = .int .i64 k ∧ n = .int .i64 ((m + tops5 (t j) k : Nat) : Int)) (fun _ c => 8 - (intOf c).toNat)
      case atStart => exact ⟨0, by omega, rfl, rfl⟩
      case round =>
        obtain ⟨k, hk, rfl, rfl⟩ := hrel
        have hck := tops5_le (t j) k
        by_cases hlt : k < 8
        · have hix := index_tarr (t j) k hlt
          have hrk := hrng k
          have HS : Hid (tops5 (t j) (k + 1) = tops5 (t j) k + (if 5 ≤ t j k then 1 else 0)) := rfl
          clear hrng
          go_wp2
          all_goals
            go_round
            case rel =>
              refine ⟨k + 1, by omega, by go_num, ?_⟩
              rw [HS.out]
              first | (rw [if_pos (by omega)]; go_num) | (rw [if_neg (by omega)]; go_num)
            case measure => simp [intOf]; omega
        · obtain rfl : k = 8 := by omega
          go_wp2_with (go_at_call 15; refine (hC.next _ j hIr hD).mono ?_; rintro e w2 ⟨rfl, hI2, hB2⟩)
          go_roundg rest.length
          case measure => exact HR.out.2
          case rel => exact ⟨done ++ [j], rest, nx j, m + tops5 (t j) 8, HR.out.1, rfl, rfl, hI2, hB.trans (hB2.mono hB.size)⟩

theorem entries_any {A : Nat} {I : World → Prop} {D : Nat → Prop} {nx : Nat → Int} {loc : Nat → Nat × Nat} {t : Nat → Nat → Int} (hC : Chained A I D nx loc t) (j : Nat) (js : List Nat) (hj : IsChain D nx (j :: js)) (hl : js.length < 1000) (w : World) (hI : I w) :
    Calls Yba.prog 8 #[.pointer (some ⟨A, 0, none⟩), .int .i64 (j : Int)] w fun e w' => e = .returned (.int .i64 (chainSum t (j :: js))) ∧ I w' ∧ Below w.heap.size w w' :=
  entries_core hC (j :: js) hj (by simp; omega) w hI _ _ rfl rfl
end Go.Proofs.Ybulkdety
