/- errors.New, context.Background; what the two ways of the law have in common. -/
import Derived.Test.YbulkdevoGreatQ17
import Derived.Test.YbulkdevoGreatQ18
namespace Go.Proofs.YbulkdevoGreat
open Go.RowKit Go.Sort
set_option linter.unusedVariables false
set_option linter.unusedSimpArgs false

set_option maxRecDepth 100000 in
theorem errNew (m : ByteArray) (w : World) : Calls Ybaz.prog 5 #[.string m] w fun e w' => e = .returned (.iface 88 (.pointer (some ⟨w.heap.size, 0, none⟩))) ∧ w' = w.alloc (.cells #[.string m] 90) := by
  go_enter Ybaz.func5, Ybaz.ntmps5
  go_wp2_with fail
  go_ret
  exact ⟨rfl, rfl⟩

set_option maxRecDepth 100000 in
theorem background (w : World) : Calls Ybaz.prog 8 #[] w fun e w' => (∃ cx, e = .returned cx) ∧ w' = w := by
  go_enter Ybaz.func8, Ybaz.ntmps8
  go_wp2_with fail
  go_ret
  exact ⟨⟨_, rfl⟩, rfl⟩

/-- What the law's two answers agree on. -/
theorem step_model (s succ pred : UInt8) (hp : Bool) (f n : List UInt8) (t : UInt8) :
    stepB s (if hp then some pred else none) succ t = mB s succ pred hp t ∧ stepL s (if hp then some pred else none) succ t (f.take 160) n = mL s succ pred hp f n t := by
  have hown : ownsB s (if hp then some pred else none) succ t = mOwn s succ pred hp t := by
    cases hp with
    | true => simp [ownsB, arcOf, mOwn, btw_eq]
    | false =>
      by_cases h : succ = s
      · simp [ownsB, arcOf, mOwn, h, btw]
      · simp [ownsB, arcOf, mOwn, h]
  refine ⟨by rw [stepB, mB, hown, btw_eq], ?_⟩
  have hs : sorted s (knownOf s t (f.take 160 ++ succ :: n)) = outTo s (fun d => (f.take 160 ++ succ :: n).contains (s + UInt8.ofNat d)) (limOf s t) 255 := sorted_eq_out s t (f.take 160 ++ succ :: n) (Go.Proofs.ltOf (cf s)) (fun a b => rfl) _ (fun d _ => rfl)
  rw [stepL, mL, hown, btw_eq, hs]
end Go.Proofs.YbulkdevoGreat
