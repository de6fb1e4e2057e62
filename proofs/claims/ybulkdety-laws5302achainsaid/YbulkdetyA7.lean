import Derived.Test.YbulkdetyA6
namespace Go.Proofs.Ybulkdety
open Go.RowKit Go.Lib

set_option maxHeartbeats 400000 in
theorem makePage_there (A S P cap : Nat) (w : World) (h0 : w.cell? ⟨A, 0, none⟩ = some (.slice (some ⟨S, 0, none⟩) 1 1)) (h1 : w.cell? ⟨S, 0, none⟩ = some (.slice (some ⟨P, 0, none⟩) cap cap)) :
    Calls Yba.prog 19 #[.pointer (some ⟨A, 0, none⟩), .int .i64 0] w fun e w' => e = .returned (.tuple #[]) ∧ w' = w := by
  have hq := fun (w : World) (a : Option Addr) (l c : Nat) => Lib.run_eql_slice_nil (P := Yba.prog) w 51 50 a l c 0 0 Yba.underlying51
  go_enter Yba.func19, Yba.ntmps19
  go_wp2
  go_end0
  exact ⟨rfl, rfl⟩

set_option maxHeartbeats 400000 in
theorem makePages_there (A S P cap n : Nat) (w : World) (h0 : w.cell? ⟨A, 0, none⟩ = some (.slice (some ⟨S, 0, none⟩) 1 1)) (h1 : w.cell? ⟨S, 0, none⟩ = some (.slice (some ⟨P, 0, none⟩) cap cap))
    (hn : w.cell? ⟨A, 1, none⟩ = some (.int .i64 n)) (h2 : 1 ≤ n) (h3 : n ≤ 128) :
    Calls Yba.prog 14 #[.pointer (some ⟨A, 0, none⟩)] w fun e w' => e = .returned (.tuple #[]) ∧ w' = w := by
  go_enter Yba.func14, Yba.ntmps14
  go_wp2
  go_loop [2] (fun i => ∃ k : Nat, i = .int .i64 ((k * 1024 : Nat) : Int) ∧ k ≤ 1) (fun i => 1024 - (intOf i).toNat)
  case atStart => exact ⟨0, rfl, by omega⟩
  case round =>
    obtain ⟨k, rfl, hk⟩ := hrel
    by_cases hk0 : k = 0
    · subst hk0
      go_wp2_with (go_at_call 19; refine (makePage_there A S P cap _ h0 h1).mono ?_; rintro e w' ⟨rfl, rfl⟩)
      go_round
      case rel => exact ⟨1, by go_num, by omega⟩
      case measure => simp [intOf]
    · obtain rfl : k = 1 := by omega
      go_wp2
      go_end0
      exact ⟨rfl, rfl⟩

set_option maxHeartbeats 400000 in
theorem newArray_any (b n : Nat) (hb8 : b < 8) (hn : wrap64 (2 ^ b) = (n : Int)) (h1 : 1 ≤ n) (h2 : n ≤ 128) (w : World) :
    Calls Yba.prog 5 #[.int .u8 b] w fun e w' => ∃ A S P cap, n ≤ cap ∧ cap ≤ maxLen ∧ e = .returned (.pointer (some ⟨A, 0, none⟩)) ∧ ArrNew A S P cap n w w' := by
  have HN : Hid (wrap64 (2 ^ b) = (n : Int)) := hn
  clear hn
  go_enter Yba.func5, Yba.ntmps5
  go_wp2_with fail
  refine (newGrowth_any b n hb8 HN.out h1 h2 _).mono ?_
  rintro e w1 ⟨A, S, P, cap, hc1, hc2, rfl, hN⟩
  have a0 := hN.a0
  have a1 := hN.a1
  have s0 := hN.s0
  have HM : Hid (cap ≤ maxLen) := hc2
  clear hc2 HN
  go_wp2_with (go_at_call 14; refine (makePages_there A S P cap n _ a0 s0 a1 h1 h2).mono ?_; rintro e w' ⟨rfl, rfl⟩)
  go_ret
  exact ⟨A, S, P, cap, hc1, HM.out, rfl, hN⟩
end Go.Proofs.Ybulkdety
