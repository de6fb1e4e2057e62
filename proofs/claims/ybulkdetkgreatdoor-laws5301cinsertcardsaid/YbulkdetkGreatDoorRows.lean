/-
  NARROWER THAN 'FOR EVERY INPUT', by the rows' own cells (each row's printed sentence says how): LawS5301CAlone: laid · LawS5301CInsert: laid.
  DERIVED. THE GIVEN ROWS OF THIS SEAT. 2 by the template 'for every input the law returns true; each argument reads behind the call as it read before'; 0 by the template 'total and deterministic' (their statements: YbulkdetkGreatDoorTotals.lean).
  GIVEN WITH THE SEED: the statements are not yours to turn. If you find one false, say at which input.
  Laid BY PROGRAM, IN A SANDBOX (cutbox-rows.mjs): the forced cells as the released guide's own fill.sh prints them over the translation 590b85adf8b987c0… (all of the seat's roots in one cut). By AI agents, Wed Nov 11 2026. No macro, syntax, notation, axiom, sorry.
-/
import Derived.Test.YbulkdetkGreatDoorChecked
import GoSem.Claim
import GoSem.ClaimJoined
import GoSem.ClaimMapViews
import Derived.JoinedTies
import Derived.KernelRfl
namespace Go.Proofs.YbulkdetkGreatDoor
/- THE CELL 'sum', in the pinned program and in every row, IS THE sha256 OF THE DUMP (.gsa) THAT YbulkdetkGreatDoorProg.lean LOADS. Nothing in Lean hashes anything: it is a label: what it is worth is what the hold of that sum in a sandbox is worth. -/
noncomputable def Ybaz.pinned : Pinned := { name := "ybulkdetkgreatdoor", sum := "590b85adf8b987c084914f04ac1a0424c2c034f39d8afa623d4a993ade00238e", checked := Ybaz.checked }
namespace Rows
def none {H : Type} : Left H := { results := [], args := [] }

/- WHAT THE LISTED PACKAGE-LEVEL VARIABLES READ AS WHEN THE CALL BEGINS. Each datum BY PROGRAM (the guide's laid-datum.mjs) off the statement by which the dump's own 'gosem.cut.vars' lays the variable. In a bare row this is a premise. The card (YbulkdetkGreatDoorCards.lean) ties it to the program's text. -/
def laid_example_com_palimpsest_palimpsest_internal_engine_compatible {H : Type} : DataW H := .agg [.agg [.lit (.bool true), .lit (.bool true), .lit (.bool true), .lit (.bool true), .lit (.bool true)], .agg [.lit (.bool true), .lit (.bool true), .lit (.bool true), .lit (.bool true), .lit (.bool false)], .agg [.lit (.bool true), .lit (.bool true), .lit (.bool true), .lit (.bool false), .lit (.bool false)], .agg [.lit (.bool true), .lit (.bool true), .lit (.bool false), .lit (.bool true), .lit (.bool false)], .agg [.lit (.bool true), .lit (.bool false), .lit (.bool false), .lit (.bool false), .lit (.bool false)]]
def laid_example_com_palimpsest_palimpsest_internal_engine_covers {H : Type} : DataW H := .agg [.agg [.lit (.bool true), .lit (.bool false), .lit (.bool false), .lit (.bool false), .lit (.bool false)], .agg [.lit (.bool true), .lit (.bool true), .lit (.bool false), .lit (.bool false), .lit (.bool false)], .agg [.lit (.bool true), .lit (.bool true), .lit (.bool true), .lit (.bool false), .lit (.bool false)], .agg [.lit (.bool true), .lit (.bool true), .lit (.bool false), .lit (.bool true), .lit (.bool false)], .agg [.lit (.bool true), .lit (.bool true), .lit (.bool true), .lit (.bool true), .lit (.bool true)]]

/-- 'engine.LawS5301CAlone': WHATEVER THE INPUT: true; the input reads as it did. -/
def lawS5301CAloneSpec : ChangeSpec := { name := "lawS5301CAlone", vars := ["example.com/palimpsest/palimpsest/internal/engine.covers", "example.com/palimpsest/palimpsest/internal/engine.compatible"], fn := fun _ => fun
  | [d, g1, g2] => { results := [.lit (.bool true)], args := [d], vars := [g1, g2] }
  | _ => none }
def lawS5301CAloneRow : OpenClaim := { program := "ybulkdetkgreatdoor", sum := "590b85adf8b987c084914f04ac1a0424c2c034f39d8afa623d4a993ade00238e", func := "example.com/palimpsest/palimpsest/internal/engine.LawS5301CAlone", spec := "lawS5301CAlone", inPlace := ["(*internal/sync.Mutex).Lock", "internal/race.Disable", "sync/atomic.CompareAndSwapInt32", "internal/race.Enable", "internal/race.Acquire", "(*internal/sync.Mutex).lockSlow", "internal/sync.runtime_canSpin", "internal/sync.runtime_doSpin", "internal/sync.throw", "internal/sync.runtime_nanotime", "internal/sync.runtime_SemacquireMutex", "sync/atomic.AddInt32", "(*internal/sync.Mutex).Unlock", "internal/race.ReleaseMerge", "(*internal/sync.Mutex).unlockSlow", "internal/sync.fatal", "internal/sync.runtime_Semrelease", "internal/bytealg.abigen_runtime_cmpstring", "math.Float64frombits"], unfollowed := true, recurses := true, named := ["example.com/palimpsest/palimpsest/internal/engine.covers", "example.com/palimpsest/palimpsest/internal/engine.compatible"], plainKeys := false, apart := false, laid := [("example.com/palimpsest/palimpsest/internal/engine.compatible", laid_example_com_palimpsest_palimpsest_internal_engine_compatible), ("example.com/palimpsest/palimpsest/internal/engine.covers", laid_example_com_palimpsest_palimpsest_internal_engine_covers)] }
def LawS5301CAloneSaid : Prop := lawS5301CAloneRow.holds Ybaz.pinned (OpenSpec.ofChange lawS5301CAloneSpec)

/-- ITS FALSE NEIGHBOUR: 'it returns false'. Refute it at one input. -/
def lawS5301CAloneWrong : ChangeSpec := { name := "lawS5301CAlone", vars := ["example.com/palimpsest/palimpsest/internal/engine.covers", "example.com/palimpsest/palimpsest/internal/engine.compatible"], fn := fun _ => fun
  | [d, g1, g2] => { results := [.lit (.bool false)], args := [d], vars := [g1, g2] }
  | _ => none }
def LawS5301CAloneWrongFalsely : Prop := lawS5301CAloneRow.holds Ybaz.pinned (OpenSpec.ofChange lawS5301CAloneWrong)

/-- 'engine.LawS5301CInsert': WHATEVER THE INPUT: true; the input reads as it did. -/
def lawS5301CInsertSpec : ChangeSpec := { name := "lawS5301CInsert", vars := ["example.com/palimpsest/palimpsest/internal/engine.covers", "example.com/palimpsest/palimpsest/internal/engine.compatible"], fn := fun _ => fun
  | [d1, d2, d3, g1, g2] => { results := [.lit (.bool true)], args := [d1, d2, d3], vars := [g1, g2] }
  | _ => none }
def lawS5301CInsertRow : OpenClaim := { program := "ybulkdetkgreatdoor", sum := "590b85adf8b987c084914f04ac1a0424c2c034f39d8afa623d4a993ade00238e", func := "example.com/palimpsest/palimpsest/internal/engine.LawS5301CInsert", spec := "lawS5301CInsert", inPlace := ["(*internal/sync.Mutex).Lock", "internal/race.Disable", "sync/atomic.CompareAndSwapInt32", "internal/race.Enable", "internal/race.Acquire", "(*internal/sync.Mutex).lockSlow", "internal/sync.runtime_canSpin", "internal/sync.runtime_doSpin", "internal/sync.throw", "internal/sync.runtime_nanotime", "internal/sync.runtime_SemacquireMutex", "sync/atomic.AddInt32", "(*internal/sync.Mutex).Unlock", "internal/race.ReleaseMerge", "(*internal/sync.Mutex).unlockSlow", "internal/sync.fatal", "internal/sync.runtime_Semrelease", "internal/bytealg.abigen_runtime_cmpstring", "math.Float64frombits"], unfollowed := true, recurses := true, named := ["example.com/palimpsest/palimpsest/internal/engine.covers", "example.com/palimpsest/palimpsest/internal/engine.compatible"], plainKeys := false, apart := false, laid := [("example.com/palimpsest/palimpsest/internal/engine.compatible", laid_example_com_palimpsest_palimpsest_internal_engine_compatible), ("example.com/palimpsest/palimpsest/internal/engine.covers", laid_example_com_palimpsest_palimpsest_internal_engine_covers)] }
def LawS5301CInsertSaid : Prop := lawS5301CInsertRow.holds Ybaz.pinned (OpenSpec.ofChange lawS5301CInsertSpec)

/-- ITS FALSE NEIGHBOUR: 'it returns false'. Refute it at one input. -/
def lawS5301CInsertWrong : ChangeSpec := { name := "lawS5301CInsert", vars := ["example.com/palimpsest/palimpsest/internal/engine.covers", "example.com/palimpsest/palimpsest/internal/engine.compatible"], fn := fun _ => fun
  | [d1, d2, d3, g1, g2] => { results := [.lit (.bool false)], args := [d1, d2, d3], vars := [g1, g2] }
  | _ => none }
def LawS5301CInsertWrongFalsely : Prop := lawS5301CInsertRow.holds Ybaz.pinned (OpenSpec.ofChange lawS5301CInsertWrong)

end Rows
end Go.Proofs.YbulkdetkGreatDoor
