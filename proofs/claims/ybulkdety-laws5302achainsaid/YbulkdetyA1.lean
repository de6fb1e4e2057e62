import Derived.Test.YbulkdetyProg
import Derived.Test.YbulkdetyBits
namespace Go.Proofs.Ybulkdety
open Go.RowKit

/-- The slice 'tops': its elements, told by a function. -/
def Tops (N : Nat) (w : World) (a : Option Addr) (len : Nat) (g : Nat → Int) : Prop :=
  (∀ i, 0 ≤ g i ∧ g i ≤ 255) ∧ (len = 0 ∨ ∃ b o, a = some ⟨b, o, none⟩ ∧ b < N ∧ ∀ i, i < len → w.cell? ⟨b, o + i, none⟩ = some (.int .u8 (g i)))

set_option maxHeartbeats 400000 in
theorem overflows_any (A : Nat) (n : Int) (w : World) (h : w.cell? ⟨A, 5, none⟩ = some (.int .i64 n)) :
    Calls Yba.prog 12 #[.pointer (some ⟨A, 0, none⟩)] w fun e w' => e = .returned (.int .i64 n) ∧ w' = w := by
  go_enter Yba.func12, Yba.ntmps12
  go_wp2
  go_ret
  exact ⟨rfl, rfl⟩

theorem ret_ptr {a b : Option Addr} (h : a = b) : Ending.returned (.pointer a) = .returned (.pointer b) := by rw [h]
theorem addr_off {b o o' : Nat} (h : o = o') : (some ⟨b, o, none⟩ : Option Addr) = some ⟨b, o', none⟩ := by rw [h]

set_option maxHeartbeats 400000 in
theorem bucket_any (A S P i cap : Nat) (w : World) (h0 : w.cell? ⟨A, 0, none⟩ = some (.slice (some ⟨S, 0, none⟩) 1 1))
    (h1 : w.cell? ⟨S, 0, none⟩ = some (.slice (some ⟨P, 0, none⟩) cap cap)) (hi : i < cap) (hi2 : i < 1024) :
    Calls Yba.prog 7 #[.pointer (some ⟨A, 0, none⟩), .int .i64 i] w fun e w' => e = .returned (.pointer (some ⟨P, i * 24, none⟩)) ∧ w' = w := by
  have h1' : w.cell? ⟨S, i / 1024, none⟩ = some (.slice (some ⟨P, 0, none⟩) cap cap) := by rw [show i / 1024 = 0 by omega]; exact h1
  have hb := and_1023 i hi2
  clear h1
  go_enter Yba.func7, Yba.ntmps7
  go_wp2
  go_ret
  exact ⟨rfl, rfl⟩

set_option maxHeartbeats 400000 in
theorem at_page (A S P i cap : Nat) (w : World) (h0 : w.cell? ⟨A, 0, none⟩ = some (.slice (some ⟨S, 0, none⟩) 1 1)) (h2 : w.cell? ⟨A, 2, none⟩ = some (.int .i64 cap))
    (h1 : w.cell? ⟨S, 0, none⟩ = some (.slice (some ⟨P, 0, none⟩) cap cap)) (hi : i < cap) (hi2 : i < 1024) :
    Calls Yba.prog 11 #[.pointer (some ⟨A, 0, none⟩), .int .i64 i] w fun e w' => e = .returned (.pointer (some ⟨P, i * 24, none⟩)) ∧ w' = w := by
  have h1' : w.cell? ⟨S, i / 1024, none⟩ = some (.slice (some ⟨P, 0, none⟩) cap cap) := by rw [show i / 1024 = 0 by omega]; exact h1
  have hb := and_1023 i hi2
  clear h1
  go_enter Yba.func11, Yba.ntmps11
  go_wp2
  go_ret
  exact ⟨rfl, rfl⟩

set_option maxHeartbeats 400000 in
theorem linksnext_none (i : Int) (b : Nat) (w : World) (h : w.cell? ⟨b, 5, none⟩ = some (.int .i64 0)) :
    Calls Yba.prog 20 #[.pointer (some ⟨b, 3, none⟩), .int .i64 i] w fun e w' => e = .returned (.int .i64 (-1)) ∧ w' = w := by
  go_enter Yba.func20, Yba.ntmps20
  go_wp2
  go_ret
  exact ⟨rfl, rfl⟩
end Go.Proofs.Ybulkdety
