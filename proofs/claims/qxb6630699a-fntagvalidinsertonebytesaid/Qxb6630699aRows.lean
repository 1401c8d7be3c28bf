/-
  No cell of these rows narrows 'for every input' (looked for: loops, veiled, ifaces, maps, wideKeys, modest, calm, conditions, laid).
  DERIVED. THE GIVEN ROWS OF THIS SEAT. 2 by the template 'for every input the law returns true; each argument reads behind the call as it read before'; 0 by the template 'total and deterministic' (their statements: Qxb6630699aTotals.lean).
  GIVEN WITH THE SEED: the statements are not yours to turn. If you find one false, say at which input.
  Laid BY PROGRAM, IN A SANDBOX (cutbox-rows.mjs): the forced cells as the released guide's own fill.sh prints them over the translation 8b0e2b9790c19764… (all of the seat's roots in one cut). By AI agents, Wed Nov 11 2026. No macro, syntax, notation, axiom, sorry.
-/
import Derived.Test.Qxb6630699aChecked
import GoSem.Claim
import GoSem.ClaimJoined
import GoSem.ClaimMapViews
import Derived.JoinedTies
import Derived.KernelRfl
namespace Go.Proofs.Qxb6630699a
/- THE CELL 'sum', in the pinned program and in every row, IS THE sha256 OF THE DUMP (.gsa) THAT Qxb6630699aProg.lean LOADS. Nothing in Lean hashes anything: it is a label: what it is worth is what the hold of that sum in a sandbox is worth. -/
noncomputable def Try.pinned : Pinned := { name := "qxb6630699a", sum := "8b0e2b9790c19764d40d9055c8e28829b020423207cbceb5c41b5bf5a8b2a020", checked := Try.checked }
namespace Rows
def none {H : Type} : Left H := { results := [], args := [] }

/-- 'zzlaws_root_b1.FnTagValidConcatAtAnyCut': WHATEVER THE INPUT: true; the input reads as it did. -/
def fnTagValidConcatAtAnyCutSpec : ChangeSpec := { name := "fnTagValidConcatAtAnyCut", fn := fun _ => fun
  | [d1, d2] => { results := [.lit (.bool true)], args := [d1, d2] }
  | _ => none }
def fnTagValidConcatAtAnyCutRow : OpenClaim := { program := "qxb6630699a", sum := "8b0e2b9790c19764d40d9055c8e28829b020423207cbceb5c41b5bf5a8b2a020", func := "example.com/rondel/rondel/zzlaws_root_b1.FnTagValidConcatAtAnyCut", spec := "fnTagValidConcatAtAnyCut", apart := false }
def FnTagValidConcatAtAnyCutSaid : Prop := fnTagValidConcatAtAnyCutRow.holds Try.pinned (OpenSpec.ofChange fnTagValidConcatAtAnyCutSpec)

/-- ITS FALSE NEIGHBOUR: 'it returns false'. Refute it at one input. -/
def fnTagValidConcatAtAnyCutWrong : ChangeSpec := { name := "fnTagValidConcatAtAnyCut", fn := fun _ => fun
  | [d1, d2] => { results := [.lit (.bool false)], args := [d1, d2] }
  | _ => none }
def FnTagValidConcatAtAnyCutWrongFalsely : Prop := fnTagValidConcatAtAnyCutRow.holds Try.pinned (OpenSpec.ofChange fnTagValidConcatAtAnyCutWrong)

/-- 'zzlaws_root_b1.FnTagValidInsertOneByte': WHATEVER THE INPUT: true; the input reads as it did. -/
def fnTagValidInsertOneByteSpec : ChangeSpec := { name := "fnTagValidInsertOneByte", fn := fun _ => fun
  | [d1, d2, d3] => { results := [.lit (.bool true)], args := [d1, d2, d3] }
  | _ => none }
def fnTagValidInsertOneByteRow : OpenClaim := { program := "qxb6630699a", sum := "8b0e2b9790c19764d40d9055c8e28829b020423207cbceb5c41b5bf5a8b2a020", func := "example.com/rondel/rondel/zzlaws_root_b1.FnTagValidInsertOneByte", spec := "fnTagValidInsertOneByte", apart := false }
def FnTagValidInsertOneByteSaid : Prop := fnTagValidInsertOneByteRow.holds Try.pinned (OpenSpec.ofChange fnTagValidInsertOneByteSpec)

/-- ITS FALSE NEIGHBOUR: 'it returns false'. Refute it at one input. -/
def fnTagValidInsertOneByteWrong : ChangeSpec := { name := "fnTagValidInsertOneByte", fn := fun _ => fun
  | [d1, d2, d3] => { results := [.lit (.bool false)], args := [d1, d2, d3] }
  | _ => none }
def FnTagValidInsertOneByteWrongFalsely : Prop := fnTagValidInsertOneByteRow.holds Try.pinned (OpenSpec.ofChange fnTagValidInsertOneByteWrong)

end Rows
end Go.Proofs.Qxb6630699a
