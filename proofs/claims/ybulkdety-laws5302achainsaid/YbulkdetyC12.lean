import Derived.Test.YbulkdetyC11
namespace Go.Proofs.Ybulkdety
open Go.RowKit Go.Lib
set_option linter.unusedVariables false

set_option maxHeartbeats 1000000 in
theorem at_single (A S n cap c X Y cY lY e j z : Nat) (sg vv : Value) (sh : Int) (w : World)
    (hA : IsBlk w A (hdr S n cap sg sh c (.pointer (some ⟨X, 0, none⟩))) 37) (hX : IsBlk w X #[.slice (some ⟨Y, 0, none⟩) lY cY, vv] 57) (hY : w.cell? ⟨Y, e, none⟩ = some (.slice (some ⟨z, 0, none⟩) 1 1)) (hel : e < lY)
    (hj : j = cap + e) (hj2 : j ≤ 1000) (he : e < 16) :
    Calls Yba.prog 11 #[.pointer (some ⟨A, 0, none⟩), .int .i64 j] w fun e w' => e = .returned (.pointer (some ⟨z, 0, none⟩)) ∧ w' = w := by
  have a2 : w.cell? ⟨A, 2, none⟩ = some (.int .i64 cap) := (hA.cell 2).trans rfl
  have a6 : w.cell? ⟨A, 6, none⟩ = some (.pointer (some ⟨X, 0, none⟩)) := (hA.cell 6).trans rfl
  have x0 : w.cell? ⟨X, 0, none⟩ = some (.slice (some ⟨Y, 0, none⟩) lY cY) := (hX.cell 0).trans rfl
  have hsub : (j : Int) - (cap : Int) = (e : Int) := by omega
  have hnl : ¬ (j < cap) := by omega
  have hcap : cap ≤ 1000 := by omega
  clear hA hX hj
  go_enter Yba.func11, Yba.ntmps11
  go_wp2
  go_ret
  exact ⟨rfl, rfl⟩

set_option maxHeartbeats 1000000 in
theorem at_block (A S n cap c X V cV U cU lU e j b : Nat) (sg sv : Value) (sh : Int) (w : World)
    (hA : IsBlk w A (hdr S n cap sg sh c (.pointer (some ⟨X, 0, none⟩))) 37) (hX : IsBlk w X #[sv, .slice (some ⟨V, 0, none⟩) 1 cV] 57) (hV : w.cell? ⟨V, 0, none⟩ = some (.slice (some ⟨U, 0, none⟩) lU cU))
    (hU : w.cell? ⟨U, e / 16, none⟩ = some (.pointer (some ⟨b, 0, none⟩))) (hel : e / 16 < lU)
    (hj : j = cap + 16 + e) (hj2 : j ≤ 1000) (he : e < 64) :
    Calls Yba.prog 11 #[.pointer (some ⟨A, 0, none⟩), .int .i64 j] w fun r w' => r = .returned (.pointer (some ⟨b, (e % 16) * 24, none⟩)) ∧ w' = w := by
  have a2 : w.cell? ⟨A, 2, none⟩ = some (.int .i64 cap) := (hA.cell 2).trans rfl
  have a6 : w.cell? ⟨A, 6, none⟩ = some (.pointer (some ⟨X, 0, none⟩)) := (hA.cell 6).trans rfl
  have x1 : w.cell? ⟨X, 1, none⟩ = some (.slice (some ⟨V, 0, none⟩) 1 cV) := (hX.cell 1).trans rfl
  have hsub : (j : Int) - (cap : Int) = ((e + 16 : Nat) : Int) := by omega
  have hsub2 : ((e : Int) + 16) - 16 = (e : Int) := by omega
  have hnl : ¬ (j < cap) := by omega
  have hcap : cap ≤ 1000 := by omega
  have hV' : w.cell? ⟨V, e / 8192, none⟩ = some (.slice (some ⟨U, 0, none⟩) lU cU) := by rw [show e / 8192 = 0 by omega]; exact hV
  have hU' : w.cell? ⟨U, e / 16 % 512, none⟩ = some (.pointer (some ⟨b, 0, none⟩)) := by rw [show e / 16 % 512 = e / 16 by omega]; exact hU
  have hel' : e / 16 % 512 < lU := by omega
  clear hA hX hj hV hU
  go_enter Yba.func11, Yba.ntmps11
  go_wp2
  go_ret
  exact ⟨rfl, rfl⟩
end Go.Proofs.Ybulkdety
