/-
  No cell of these rows narrows 'for every input' (looked for: loops, veiled, ifaces, maps, wideKeys, modest, calm, conditions, laid).
  DERIVED. THE GIVEN ROWS OF THIS SEAT. 2 by the template 'for every input the law returns true; each argument reads behind the call as it read before'; 0 by the template 'total and deterministic' (their statements: Qxb6630777aTotals.lean).
  GIVEN WITH THE SEED: the statements are not yours to turn. If you find one false, say at which input.
  Laid BY PROGRAM, IN A SANDBOX (cutbox-rows.mjs): the forced cells as the released guide's own fill.sh prints them over the translation bd7ff348fda2c4df… (all of the seat's roots in one cut). By AI agents, Wed Nov 11 2026. No macro, syntax, notation, axiom, sorry.
-/
import Derived.Test.Qxb6630777aChecked
import GoSem.Claim
import GoSem.ClaimJoined
import GoSem.ClaimMapViews
import Derived.JoinedTies
import Derived.KernelRfl
namespace Go.Proofs.Qxb6630777a
/- THE CELL 'sum', in the pinned program and in every row, IS THE sha256 OF THE DUMP (.gsa) THAT Qxb6630777aProg.lean LOADS. Nothing in Lean hashes anything: it is a label: what it is worth is what the hold of that sum in a sandbox is worth. -/
noncomputable def Try.pinned : Pinned := { name := "qxb6630777a", sum := "bd7ff348fda2c4df427597b0a51bfff6f736c20c0d0c15656bb2ffaddc037bcd", checked := Try.checked }
namespace Rows
def none {H : Type} : Left H := { results := [], args := [] }

/-- 'zzlaws_root_b1.FnAddNumbersByFirstOccurrence': WHATEVER THE INPUT: true; the input reads as it did. -/
def fnAddNumbersByFirstOccurrenceSpec : ChangeSpec := { name := "fnAddNumbersByFirstOccurrence", fn := fun _ => fun
  | [d] => { results := [.lit (.bool true)], args := [d] }
  | _ => none }
def fnAddNumbersByFirstOccurrenceRow : OpenClaim := { program := "qxb6630777a", sum := "bd7ff348fda2c4df427597b0a51bfff6f736c20c0d0c15656bb2ffaddc037bcd", func := "example.com/tagbind/tagbind/zzlaws_root_b1.FnAddNumbersByFirstOccurrence", spec := "fnAddNumbersByFirstOccurrence", apart := false }
def FnAddNumbersByFirstOccurrenceSaid : Prop := fnAddNumbersByFirstOccurrenceRow.holds Try.pinned (OpenSpec.ofChange fnAddNumbersByFirstOccurrenceSpec)

/-- ITS FALSE NEIGHBOUR: 'it returns false'. Refute it at one input. -/
def fnAddNumbersByFirstOccurrenceWrong : ChangeSpec := { name := "fnAddNumbersByFirstOccurrence", fn := fun _ => fun
  | [d] => { results := [.lit (.bool false)], args := [d] }
  | _ => none }
def FnAddNumbersByFirstOccurrenceWrongFalsely : Prop := fnAddNumbersByFirstOccurrenceRow.holds Try.pinned (OpenSpec.ofChange fnAddNumbersByFirstOccurrenceWrong)

/-- 'zzlaws_root_b1.FnAddAgreesWithNumber': WHATEVER THE INPUT: true; the input reads as it did. -/
def fnAddAgreesWithNumberSpec : ChangeSpec := { name := "fnAddAgreesWithNumber", fn := fun _ => fun
  | [d1, d2] => { results := [.lit (.bool true)], args := [d1, d2] }
  | _ => none }
def fnAddAgreesWithNumberRow : OpenClaim := { program := "qxb6630777a", sum := "bd7ff348fda2c4df427597b0a51bfff6f736c20c0d0c15656bb2ffaddc037bcd", func := "example.com/tagbind/tagbind/zzlaws_root_b1.FnAddAgreesWithNumber", spec := "fnAddAgreesWithNumber", apart := false }
def FnAddAgreesWithNumberSaid : Prop := fnAddAgreesWithNumberRow.holds Try.pinned (OpenSpec.ofChange fnAddAgreesWithNumberSpec)

/-- ITS FALSE NEIGHBOUR: 'it returns false'. Refute it at one input. -/
def fnAddAgreesWithNumberWrong : ChangeSpec := { name := "fnAddAgreesWithNumber", fn := fun _ => fun
  | [d1, d2] => { results := [.lit (.bool false)], args := [d1, d2] }
  | _ => none }
def FnAddAgreesWithNumberWrongFalsely : Prop := fnAddAgreesWithNumberRow.holds Try.pinned (OpenSpec.ofChange fnAddAgreesWithNumberWrong)

end Rows
end Go.Proofs.Qxb6630777a
