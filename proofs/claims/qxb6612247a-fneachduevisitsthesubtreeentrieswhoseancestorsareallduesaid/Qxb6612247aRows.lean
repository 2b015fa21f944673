/-
  No cell of these rows narrows 'for every input' (looked for: loops, veiled, ifaces, maps, wideKeys, modest, calm, conditions, laid).
  DERIVED. THE GIVEN ROWS OF THIS SEAT. 4 by the template 'for every input the law returns true; each argument reads behind the call as it read before'; 0 by the template 'total and deterministic' (their statements: Qxb6612247aTotals.lean).
  GIVEN WITH THE SEED: the statements are not yours to turn. If you find one false, say at which input.
  Laid BY PROGRAM, IN A SANDBOX (cutbox-rows.mjs): the forced cells as the released guide's own fill.sh prints them over the translation 8443aaa843bccfe3… (all of the seat's roots in one cut). By AI agents, Wed Nov 11 2026. No macro, syntax, notation, axiom, sorry.
-/
import Derived.Test.Qxb6612247aChecked
import GoSem.Claim
import GoSem.ClaimJoined
import GoSem.ClaimMapViews
import Derived.JoinedTies
import Derived.KernelRfl
namespace Go.Proofs.Qxb6612247a
/- THE CELL 'sum', in the pinned program and in every row, IS THE sha256 OF THE DUMP (.gsa) THAT Qxb6612247aProg.lean LOADS. Nothing in Lean hashes anything: it is a label: what it is worth is what the hold of that sum in a sandbox is worth. -/
noncomputable def Try.pinned : Pinned := { name := "qxb6612247a", sum := "8443aaa843bccfe3f73c822929fc60d0cd087eb647299228ab9333fab70332e1", checked := Try.checked }
namespace Rows
def none {H : Type} : Left H := { results := [], args := [] }

/-- 'zzlaws_internal_engine_b1.FnDueIsTrueExactlyWhenSomeEntryIsDue': WHATEVER THE INPUT: true; the input reads as it did. -/
def fnDueIsTrueExactlyWhenSomeEntryIsDueSpec : ChangeSpec := { name := "fnDueIsTrueExactlyWhenSomeEntryIsDue", fn := fun _ => fun
  | [d1, d2, d3] => { results := [.lit (.bool true)], args := [d1, d2, d3] }
  | _ => none }
def fnDueIsTrueExactlyWhenSomeEntryIsDueRow : OpenClaim := { program := "qxb6612247a", sum := "8443aaa843bccfe3f73c822929fc60d0cd087eb647299228ab9333fab70332e1", func := "example.com/redoubt/redoubt/zzlaws_internal_engine_b1.FnDueIsTrueExactlyWhenSomeEntryIsDue", spec := "fnDueIsTrueExactlyWhenSomeEntryIsDue", apart := false }
def FnDueIsTrueExactlyWhenSomeEntryIsDueSaid : Prop := fnDueIsTrueExactlyWhenSomeEntryIsDueRow.holds Try.pinned (OpenSpec.ofChange fnDueIsTrueExactlyWhenSomeEntryIsDueSpec)

/-- ITS FALSE NEIGHBOUR: 'it returns false'. Refute it at one input. -/
def fnDueIsTrueExactlyWhenSomeEntryIsDueWrong : ChangeSpec := { name := "fnDueIsTrueExactlyWhenSomeEntryIsDue", fn := fun _ => fun
  | [d1, d2, d3] => { results := [.lit (.bool false)], args := [d1, d2, d3] }
  | _ => none }
def FnDueIsTrueExactlyWhenSomeEntryIsDueWrongFalsely : Prop := fnDueIsTrueExactlyWhenSomeEntryIsDueRow.holds Try.pinned (OpenSpec.ofChange fnDueIsTrueExactlyWhenSomeEntryIsDueWrong)

/-- 'zzlaws_internal_engine_b1.FnDueTurnsTrueAtTheSoonestTime': WHATEVER THE INPUT: true; the input reads as it did. -/
def fnDueTurnsTrueAtTheSoonestTimeSpec : ChangeSpec := { name := "fnDueTurnsTrueAtTheSoonestTime", fn := fun _ => fun
  | [d1, d2] => { results := [.lit (.bool true)], args := [d1, d2] }
  | _ => none }
def fnDueTurnsTrueAtTheSoonestTimeRow : OpenClaim := { program := "qxb6612247a", sum := "8443aaa843bccfe3f73c822929fc60d0cd087eb647299228ab9333fab70332e1", func := "example.com/redoubt/redoubt/zzlaws_internal_engine_b1.FnDueTurnsTrueAtTheSoonestTime", spec := "fnDueTurnsTrueAtTheSoonestTime", apart := false }
def FnDueTurnsTrueAtTheSoonestTimeSaid : Prop := fnDueTurnsTrueAtTheSoonestTimeRow.holds Try.pinned (OpenSpec.ofChange fnDueTurnsTrueAtTheSoonestTimeSpec)

/-- ITS FALSE NEIGHBOUR: 'it returns false'. Refute it at one input. -/
def fnDueTurnsTrueAtTheSoonestTimeWrong : ChangeSpec := { name := "fnDueTurnsTrueAtTheSoonestTime", fn := fun _ => fun
  | [d1, d2] => { results := [.lit (.bool false)], args := [d1, d2] }
  | _ => none }
def FnDueTurnsTrueAtTheSoonestTimeWrongFalsely : Prop := fnDueTurnsTrueAtTheSoonestTimeRow.holds Try.pinned (OpenSpec.ofChange fnDueTurnsTrueAtTheSoonestTimeWrong)

/-- 'zzlaws_internal_engine_b1.FnEachDueFromTheRootVisitsExactlyTheDueEntriesOfAHeap': WHATEVER THE INPUT: true; the input reads as it did. -/
def fnEachDueFromTheRootVisitsExactlyTheDueEntriesOfAHeapSpec : ChangeSpec := { name := "fnEachDueFromTheRootVisitsExactlyTheDueEntriesOfAHeap", fn := fun _ => fun
  | [d1, d2, d3] => { results := [.lit (.bool true)], args := [d1, d2, d3] }
  | _ => none }
def fnEachDueFromTheRootVisitsExactlyTheDueEntriesOfAHeapRow : OpenClaim := { program := "qxb6612247a", sum := "8443aaa843bccfe3f73c822929fc60d0cd087eb647299228ab9333fab70332e1", func := "example.com/redoubt/redoubt/zzlaws_internal_engine_b1.FnEachDueFromTheRootVisitsExactlyTheDueEntriesOfAHeap", spec := "fnEachDueFromTheRootVisitsExactlyTheDueEntriesOfAHeap", unfollowed := true, recurses := true, apart := false }
def FnEachDueFromTheRootVisitsExactlyTheDueEntriesOfAHeapSaid : Prop := fnEachDueFromTheRootVisitsExactlyTheDueEntriesOfAHeapRow.holds Try.pinned (OpenSpec.ofChange fnEachDueFromTheRootVisitsExactlyTheDueEntriesOfAHeapSpec)

/-- ITS FALSE NEIGHBOUR: 'it returns false'. Refute it at one input. -/
def fnEachDueFromTheRootVisitsExactlyTheDueEntriesOfAHeapWrong : ChangeSpec := { name := "fnEachDueFromTheRootVisitsExactlyTheDueEntriesOfAHeap", fn := fun _ => fun
  | [d1, d2, d3] => { results := [.lit (.bool false)], args := [d1, d2, d3] }
  | _ => none }
def FnEachDueFromTheRootVisitsExactlyTheDueEntriesOfAHeapWrongFalsely : Prop := fnEachDueFromTheRootVisitsExactlyTheDueEntriesOfAHeapRow.holds Try.pinned (OpenSpec.ofChange fnEachDueFromTheRootVisitsExactlyTheDueEntriesOfAHeapWrong)

/-- 'zzlaws_internal_engine_b1.FnEachDueVisitsTheSubtreeEntriesWhoseAncestorsAreAllDue': WHATEVER THE INPUT: true; the input reads as it did. -/
def fnEachDueVisitsTheSubtreeEntriesWhoseAncestorsAreAllDueSpec : ChangeSpec := { name := "fnEachDueVisitsTheSubtreeEntriesWhoseAncestorsAreAllDue", fn := fun _ => fun
  | [d1, d2, d3, d4] => { results := [.lit (.bool true)], args := [d1, d2, d3, d4] }
  | _ => none }
def fnEachDueVisitsTheSubtreeEntriesWhoseAncestorsAreAllDueRow : OpenClaim := { program := "qxb6612247a", sum := "8443aaa843bccfe3f73c822929fc60d0cd087eb647299228ab9333fab70332e1", func := "example.com/redoubt/redoubt/zzlaws_internal_engine_b1.FnEachDueVisitsTheSubtreeEntriesWhoseAncestorsAreAllDue", spec := "fnEachDueVisitsTheSubtreeEntriesWhoseAncestorsAreAllDue", unfollowed := true, recurses := true, apart := false }
def FnEachDueVisitsTheSubtreeEntriesWhoseAncestorsAreAllDueSaid : Prop := fnEachDueVisitsTheSubtreeEntriesWhoseAncestorsAreAllDueRow.holds Try.pinned (OpenSpec.ofChange fnEachDueVisitsTheSubtreeEntriesWhoseAncestorsAreAllDueSpec)

/-- ITS FALSE NEIGHBOUR: 'it returns false'. Refute it at one input. -/
def fnEachDueVisitsTheSubtreeEntriesWhoseAncestorsAreAllDueWrong : ChangeSpec := { name := "fnEachDueVisitsTheSubtreeEntriesWhoseAncestorsAreAllDue", fn := fun _ => fun
  | [d1, d2, d3, d4] => { results := [.lit (.bool false)], args := [d1, d2, d3, d4] }
  | _ => none }
def FnEachDueVisitsTheSubtreeEntriesWhoseAncestorsAreAllDueWrongFalsely : Prop := fnEachDueVisitsTheSubtreeEntriesWhoseAncestorsAreAllDueRow.holds Try.pinned (OpenSpec.ofChange fnEachDueVisitsTheSubtreeEntriesWhoseAncestorsAreAllDueWrong)

end Rows
end Go.Proofs.Qxb6612247a
