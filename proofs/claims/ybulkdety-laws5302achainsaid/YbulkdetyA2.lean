import Derived.Test.YbulkdetyA1
namespace Go.Proofs.Ybulkdety
open Go.RowKit

/-- Is the cell at place i of 'tops' occupied? -/
def occ (len : Nat) (g : Nat → Int) (i : Nat) : Nat := if i < len then (if 5 ≤ g i then 1 else 0) else 0
/-- How many of the first k cells from 'off' on are occupied. -/
def cnt (len : Nat) (g : Nat → Int) (off : Nat) : Nat → Nat
  | 0 => 0
  | k + 1 => cnt len g off k + occ len g (off + k)
theorem occ_le (len : Nat) (g : Nat → Int) (i : Nat) : occ len g i ≤ 1 := by unfold occ; split <;> (try split) <;> omega
theorem cnt_le (len : Nat) (g : Nat → Int) (off k : Nat) : cnt len g off k ≤ k := by
  induction k with
  | zero => exact Nat.le_refl _
  | succ k ih => have := occ_le len g (off + k); simp only [cnt]; omega
theorem ret_int {k : IntKind} {a b : Int} (h : a = b) : Ending.returned (.int k a) = .returned (.int k b) := by rw [h]

set_option maxHeartbeats 400000 in
theorem count_any (N : Nat) (a : Option Addr) (len cap off : Nat) (g : Nat → Int) (w : World) (hT : Tops N w a len g) (hoff : off ≤ 1000000) (hlen : len ≤ 1000000) :
    Calls Yba.prog 9 #[.slice a len cap, .int .i64 off] w fun e w' => e = .returned (.int .i64 (cnt len g off 8)) ∧ w' = w := by
  obtain ⟨hg, hT⟩ := hT
  go_enter Yba.func9, Yba.ntmps9
  go_wp2
  go_loop [5, 6] (fun n c => ∃ k : Nat, k ≤ 8 ∧ c = .int .i64 k ∧ n = .int .i64 (cnt len g off k)) (fun _ c => 8 - (intOf c).toNat)
  case atStart => exact ⟨0, by omega, rfl, rfl⟩
  case round =>
    obtain ⟨k, hk, rfl, rfl⟩ := hrel
    have hc := cnt_le len g off k
    by_cases hlt : k < 8
    · have HS : Hid (cnt len g off (k + 1) = cnt len g off k + occ len g (off + k)) := rfl
      by_cases hin : off + k < len
      · rcases hT with h0 | ⟨b, o, rfl, hb, hcell⟩
        · omega
        have hcl := hcell (off + k) hin
        have hgk := hg (off + k)
        clear hcell hg
        go_wp2
        all_goals
          go_round
          case rel =>
            refine ⟨k + 1, by omega, by go_num, ?_⟩
            rw [HS.out]; unfold occ; rw [if_pos hin]
            first | (rw [if_pos (by omega)]; go_num) | (rw [if_neg (by omega)]; go_num)
          case measure => simp [intOf]; omega
      · clear hT hg
        have hd : decide ((off : Int) + (k : Int) < (len : Int)) = false := by simp; omega
        go_wp2
        all_goals
          go_round
          case rel =>
            refine ⟨k + 1, by omega, by go_num, ?_⟩
            rw [HS.out]; unfold occ; rw [if_neg hin]
            go_num
          case measure => simp [intOf]; omega
    · obtain rfl : k = 8 := by omega
      go_wp2
      go_ret
      exact ⟨rfl, rfl⟩
end Go.Proofs.Ybulkdety
