/- THE PROOF OF 'Rows.LawS5301CInsertCardSaid'. -/
import Derived.Test.YbulkdetkGreatDoorRows
import Derived.Test.YbulkdetkGreatDoorTie
import Derived.Test.YbulkdetkGreatDoorCards
import Derived.Test.YbulkdetkGreatDoorB22
import Derived.WalkKit
import Derived.ProofKit
import Derived.LaidMore
import Derived.OpenShut
import Derived.OpenVars
import Derived.ChangeOld
import Derived.Below
import Derived.Stop.Joined
import Derived.SevenTiedAt
namespace Go.Proofs.YbulkdetkGreatDoor.lawS5301CInsert
open Go.ChangeShapes Go.WideShapes Go.ChangeAt Go.RowKit
set_option linter.unusedVariables false

theorem own : ownKnob Ybaz.prog.godebug = none := by kernel_rfl
theorem laidOut : laidOutB Ybaz.prog = true := by kernel_rfl

/-- The door's own heap meets the condition. -/
theorem door_met (os : Os) (args : Array Value) : laidMetH Ybaz.prog Rows.lawS5301CInsertRow.laid ((World.doorLaid Ybaz.prog 29 os).forCall (fun _ _ => 0) ⟨#[], args, []⟩).memory :=
  laidMetH_of_parts3 (fuel := 8) (laidMet_of_run' 8 (by kernel_rfl) (by kernel_rfl)) (by kernel_rfl) (by kernel_rfl)

set_option maxRecDepth 100000 in
theorem lifted (os : Os) (started : os.Started) (H : Type) (enc : TypeId × Value → H) :
    ReturnsInHanded {} Ybaz.checked os 4 .any (fun w args => (Rows.lawS5301CInsertSpec.pre enc Ybaz.prog Ybaz.f4 [] false w args ∧ laidMetH Ybaz.prog Rows.lawS5301CInsertRow.laid w) ∧ sizedMet enc Ybaz.prog Ybaz.f4 (OpenSpec.ofChange Rows.lawS5301CInsertSpec) false w args)
      (Rows.lawS5301CInsertSpec.post enc Ybaz.prog Ybaz.f4 false true false false) := by
  refine returnsInHanded_of_change_and (C := Ybaz.checked) (X := fun w _ => laidMetH Ybaz.prog Rows.lawS5301CInsertRow.laid w) (fun _ _ _ hh h => h.of_heap hh) own started (by kernel_rfl) Ybaz.func4
    (ChangeSpec.witness_shaped (enc := enc) (C := Ybaz.checked) (os := os) (X := fun w _ => laidMetH Ybaz.prog Rows.lawS5301CInsertRow.laid w) false (World.doorLaid Ybaz.prog 29 os) #[.slice none 0 0, .int .u8 0, .bool false] 8 rfl (World.shaped_of_RefB (by kernel_rfl) (by kernel_rfl)) (by kernel_rfl) (by kernel_rfl) (by kernel_rfl) (door_met os _)) ?_
  intro W base args ds gs before hval0 hW _ _ hL _
  have hval : ∀ (j : Nat) t v, Ybaz.f4.params[j]? = some t → args[j]? = some v → Value.okWide Ybaz.prog W .any base t v := hval0
  have hW' := hW
  obtain ⟨p, q, hA0, hV, rfl, hfz, hnd⟩ := hW
  have hA : DataW.TrodAll enc Ybaz.prog W 0 (fun _ => true) true Ybaz.f4.params.toList args.toList ds p := hA0
  rw [Ybaz.params4] at hA hval
  obtain ⟨v0, vs0, d0, ds0, p0, q0, hargs, rfl, rfl, h0, r0⟩ := trodAll_cons hA
  obtain ⟨v1, vs1, d1, ds1, p1, q1, rfl, rfl, rfl, h1, r1⟩ := trodAll_cons r0
  obtain ⟨v2, vs2, d2, ds2, p2, q2, rfl, rfl, rfl, h2, r2⟩ := trodAll_cons r1
  obtain ⟨rfl, rfl, rfl⟩ := trodAll_nil r2
  obtain rfl : args = #[v0, v1, v2] := by cases args; simp_all
  obtain ⟨a0, len0, cap0, rfl⟩ := okWide_slice Ybaz.underlying22 (hval 0 22 v0 rfl rfl)
  obtain ⟨a1, rfl, rfl, rfl, w1⟩ := open_int Ybaz.underlying5 (hval 1 5 v1 rfl rfl) h1
  obtain ⟨a2, rfl, rfl, rfl⟩ := open_bool Ybaz.underlying4 (hval 2 4 v2 rfl rfl) h2
  have k0 := h0
  have lt0 : ∀ x ∈ p0, x.block < W.heap.size := by obtain ⟨m, hm⟩ := k0; exact DataW.trod_lt m _ _ _ hm
  have b1 := bounds_u8 w1
  obtain ⟨bm, rfl⟩ : ∃ bm : Nat, a1 = (bm : Int) := ⟨a1.toNat, by omega⟩
  obtain ⟨hlen, fm, fg, fi, hO⟩ : len0 ≤ 9223372036854775807 ∧ ∃ fm fg fi, Ops W.heap.size W a0 len0 fm fg fi := by
    obtain ⟨fuel, hf⟩ := h0
    exact ops_of_trod hf
  have hC := cov_of_laid hL
  obtain ⟨g0, t0, cs0, f0, e0, u0, g1, t1, cs1, f1, e1, u1, rfl, _⟩ := trodVars_two hV
  have hV' := hV
  clear hA0 hval0
  refine (insert_walk a0 len0 cap0 fm fg fi bm a2 W hlen (by omega) hC hO).mono fun e W' ⟨he, bel⟩ => ?_
  subst he
  exact ⟨_, rfl, _, _, _, [], _, _, hW', trodAll_mk1 (shut_bool Ybaz.underlying4 _), (trodAll_cons_mk (Below.trod laidOut (by kernel_rfl) (of_decide_eq_true (by kernel_rfl)) k0 bel lt0) (trodAll_cons_mk (shut_int Ybaz.underlying5 w1) (trodAll_cons_mk (shut_bool Ybaz.underlying4 _) trodAll_mk0))), Below.trodVars laidOut bel (by kernel_rfl) hV', bel.frame _, fun h => by cases h⟩

theorem row_holds : Rows.LawS5301CInsertSaid :=
  OpenClaim.holds_of_wide 4 Ybaz.f4 rfl rfl rfl rfl rfl rfl rfl ⟨rfl, rfl, rfl, rfl, rfl⟩ rfl rfl rfl rfl rfl (by kernel_rfl) Ybaz.func4 (by kernel_rfl)
    (of_decide_eq_true (by kernel_rfl)) (by unfold Func.isWrapper; first | (rw [if_pos (by decide +kernel)]; kernel_rfl) | (rw [if_neg (by decide +kernel)]; exact ⟨rfl, rfl⟩))
    (fun os started H enc _ => lifted os started H enc)

theorem proved : Rows.LawS5301CInsertCardSaid :=
  Claim7.holds_tied_plain_at .later [] [.data, .data] true (true, "49abe7b3400768c31719c6fe02bf0b330ac3d6f1c4a6cdad190a74175ab2f110") false
    row_holds (fun _ h => by cases h) (by kernel_rfl) (fun _ h => by cases h) lawS5301CInsert_row_tie rfl ⟨rfl, rfl⟩ (by kernel_rfl) rfl
    (fun f fn hf hfn => by
      obtain rfl : f = 4 := Option.some.inj ((show Ybaz.prog.funcNamed "example.com/palimpsest/palimpsest/internal/engine.LawS5301CInsert" = some 4 by kernel_rfl).symm.trans hf) |>.symm
      obtain rfl : fn = Ybaz.f4 := (Option.some.inj (Ybaz.func4.symm.trans hfn)).symm
      exact ⟨by kernel_rfl, fun j t ht => by
        rw [Ybaz.params4] at ht
        have h3 : t = 22 ∨ t = 5 ∨ t = 4 := by
          rcases j with _ | _ | _ | j
          · left; simpa using ht.symm
          · right; left; simpa using ht.symm
          · right; right; simpa using ht.symm
          · simp at ht
        rcases h3 with rfl | rfl | rfl
        · exact (show Ybaz.prog.wantsStandIn 22 = false by kernel_rfl)
        · exact (show Ybaz.prog.wantsStandIn 5 = false by kernel_rfl)
        · exact (show Ybaz.prog.wantsStandIn 4 = false by kernel_rfl)⟩)
    (by kernel_rfl)
#print axioms proved
end Go.Proofs.YbulkdetkGreatDoor.lawS5301CInsert
