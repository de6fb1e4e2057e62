/- The small functions of the lock's modes. -/
import Derived.Test.YbulkdetkGreatDoorB1
import Derived.Test.YbulkdetkGreatDoorRows
import Derived.WalkKit
import Derived.BigQuiet
import Derived.Deep.QuietTactic
import Derived.Deep.RegionWith
import Derived.Deep.RegionLaw
namespace Go.Proofs.YbulkdetkGreatDoor
open Go.RowKit
set_option linter.unusedVariables false

/-- What the table of modes says: holding a covers asking for b. -/
def covb (a b : Nat) : Bool := a == b || b == 0 || a == 4 || (b == 1 && decide (1 ≤ a))

def Cov (w : World) : Prop := 1 < w.heap.size ∧ ∀ a b : Nat, a < 5 → b < 5 → w.cell? ⟨0, a * 5 + b, none⟩ = some (.bool (covb a b))

def joinb (a b : Nat) : Nat := if covb a b then a else if covb b a then b else 4

theorem joinb_lt {a b : Nat} (ha : a < 5) (hb : b < 5) : joinb a b < 5 := by
  unfold joinb
  split
  · exact ha
  · split
    · exact hb
    · omega

theorem joinb_zero (a : Nat) : joinb a 0 = a := by
  simp [joinb, covb]

/-- Nothing that lay has turned. -/
abbrev Grew : World → World → Prop := Turn (fun _ => False)

theorem Cov.turn {M : Nat → Prop} {w w' : World} (h : Cov w) (k : Turn M w w') (hM : ¬ M 0) : Cov w' :=
  ⟨Nat.lt_of_lt_of_le h.1 k.size, fun a b ha hb => (k.cell (by have := h.1; omega) hM).trans (h.2 a b ha hb)⟩
theorem Cov.grew {w w' : World} (h : Cov w) (k : Grew w w') : Cov w' := h.turn k (by simp)

theorem Turn.drewN {M : Nat → Prop} {a w : World} (h : Turn M a w) (n : Nat) : Turn M a (w.drewN n) := ⟨h.os, h.tape, h.output, h.size, h.block⟩
theorem Turn.then {M M' : Nat → Prop} {a b c : World} (h : Turn M a b) (k : Turn M' b c) (hM : ∀ i, i < a.heap.size → M' i → M i) : Turn M a c :=
  ⟨k.os.trans h.os, k.tape.trans h.tape, k.output.trans h.output, Nat.le_trans h.size k.size, fun i hi hn => (k.block i (Nat.lt_of_lt_of_le hi h.size) (fun x => hn (hM i hi x))).trans (h.block i hi hn)⟩
theorem Turn.set1 (w : World) (b i : Nat) (v : Value) : Turn (· = b) w (w.setCell ⟨b, i, none⟩ v) := (Turn.refl (· = b) w).setCell (p := ⟨b, i, none⟩) (Or.inl rfl) v
theorem Turn.of_grew {M : Nat → Prop} {w w' : World} (h : Grew w w') : Turn M w w' := h.mono (fun _ _ x => x.elim)
theorem Turn.grew {M : Nat → Prop} {a w w' : World} (h : Turn M a w) (k : Grew w w') : Turn M a w' := h.trans (Turn.of_grew k)

set_option maxRecDepth 100000 in
theorem join_any (a b : Nat) (ha : a < 5) (hb : b < 5) (w : World) (hC : Cov w) :
    Calls Ybaz.prog 37 #[.int .u8 a, .int .u8 b] w fun e w' => e = .returned (.int .u8 (joinb a b : Nat)) ∧ w' = w := by
  have h1 := hC.2 a b ha hb
  have h2 := hC.2 b a hb ha
  go_enter Ybaz.func37, Ybaz.ntmps37
  go_wp2_with fail
  all_goals
    go_ret
    refine ⟨?_, rfl⟩
    simp_all [joinb]

set_option maxRecDepth 100000 in
theorem zzcov_any (a b : Nat) (ha : a < 5) (hb : b < 5) (w : World) :
    Calls Ybaz.prog 9 #[.int .u8 a, .int .u8 b] w fun e w' => e = .returned (.bool (covb a b)) ∧ w' = w := by
  go_enter Ybaz.func9, Ybaz.ntmps9
  go_wp2_with fail
  all_goals
    go_ret
    refine ⟨?_, rfl⟩
    rcases (show a = 0 ∨ a = 1 ∨ a = 2 ∨ a = 3 ∨ a = 4 by omega) with rfl | rfl | rfl | rfl | rfl <;> rcases (show b = 0 ∨ b = 1 ∨ b = 2 ∨ b = 3 ∨ b = 4 by omega) with rfl | rfl | rfl | rfl | rfl <;> simp_all [covb]

set_option maxRecDepth 100000 in
theorem zzjoin_any (a b : Nat) (ha : a < 5) (hb : b < 5) (w : World) :
    Calls Ybaz.prog 10 #[.int .u8 a, .int .u8 b] w fun e w' => e = .returned (.int .u8 (joinb a b : Nat)) ∧ w' = w := by
  go_enter Ybaz.func10, Ybaz.ntmps10
  go_wp2_with fail
  refine (zzcov_any a b ha hb _).mono ?_
  rintro e w' ⟨rfl, rfl⟩
  go_wp2_with fail
  · go_ret
    refine ⟨?_, rfl⟩
    simp_all [joinb]
  · refine (zzcov_any b a hb ha _).mono ?_
    rintro e w' ⟨rfl, rfl⟩
    go_wp2_with fail
    all_goals
      go_ret
      refine ⟨?_, rfl⟩
      simp_all [joinb]

set_option maxRecDepth 100000 in
set_option maxHeartbeats 1000000 in
theorem covers_any (a b : Nat) (g g' i i' : Bool) (ha : a < 5) (hb : b < 5) (w : World) (hC : Cov w) :
    Calls Ybaz.prog 17 #[.agg #[.int .u8 a, .bool g, .bool i], .agg #[.int .u8 b, .bool g', .bool i']] w fun e w' => e = .returned (.bool (!i' && covb a b && (g || !g'))) ∧ Grew w w' := by
  have hC2 := hC.1
  have h1 := hC.2 a b ha hb
  have HT : Grew w ((w.alloc (.cells #[.int .u8 a, .bool g, .bool i] 73)).alloc (.cells #[.int .u8 b, .bool g', .bool i'] 73)) := ((Turn.refl _ _).alloc _).alloc _
  have hC3 : 0 < w.heap.size := by omega
  have hC4 : 0 < w.heap.size + 1 := by omega
  generalize covb a b = c at *
  clear hC
  cases i' <;> cases c <;> cases g <;> cases g'
  all_goals
    go_enter Ybaz.func17, Ybaz.ntmps17
    go_wp2_with fail
    go_quiet (fail)
    go_wp2_with fail
    go_ret
    exact ⟨rfl, HT.drewN _⟩
end Go.Proofs.YbulkdetkGreatDoor
