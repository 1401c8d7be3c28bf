/-
  No cell of these rows narrows 'for every input' (looked for: loops, veiled, ifaces, maps, wideKeys, modest, calm, conditions, laid).
  DERIVED. THE GIVEN ROWS OF THIS SEAT. 2 by the template 'for every input the law returns true; each argument reads behind the call as it read before'; 0 by the template 'total and deterministic' (their statements: Qxb6630744aTotals.lean).
  GIVEN WITH THE SEED: the statements are not yours to turn. If you find one false, say at which input.
  Laid BY PROGRAM, IN A SANDBOX (cutbox-rows.mjs): the forced cells as the released guide's own fill.sh prints them over the translation 9b332a84cdd0f279… (all of the seat's roots in one cut). By AI agents, Wed Nov 11 2026. No macro, syntax, notation, axiom, sorry.
-/
import Derived.Test.Qxb6630744aChecked
import GoSem.Claim
import GoSem.ClaimJoined
import GoSem.ClaimMapViews
import Derived.JoinedTies
import Derived.KernelRfl
namespace Go.Proofs.Qxb6630744a
/- THE CELL 'sum', in the pinned program and in every row, IS THE sha256 OF THE DUMP (.gsa) THAT Qxb6630744aProg.lean LOADS. Nothing in Lean hashes anything: it is a label: what it is worth is what the hold of that sum in a sandbox is worth. -/
noncomputable def Try.pinned : Pinned := { name := "qxb6630744a", sum := "9b332a84cdd0f2795cda89d0bfe45f8b5eb37b1ea353ae7febc7ed0f61e6a0db", checked := Try.checked }
namespace Rows
def none {H : Type} : Left H := { results := [], args := [] }

/-- 'zzlaws_pkg_resp_b1.FnParseIntMatchesCanonicalText': WHATEVER THE INPUT: true; the input reads as it did. -/
def fnParseIntMatchesCanonicalTextSpec : ChangeSpec := { name := "fnParseIntMatchesCanonicalText", fn := fun _ => fun
  | [d] => { results := [.lit (.bool true)], args := [d] }
  | _ => none }
def fnParseIntMatchesCanonicalTextRow : OpenClaim := { program := "qxb6630744a", sum := "9b332a84cdd0f2795cda89d0bfe45f8b5eb37b1ea353ae7febc7ed0f61e6a0db", func := "example.com/holdfast/holdfast/zzlaws_pkg_resp_b1.FnParseIntMatchesCanonicalText", spec := "fnParseIntMatchesCanonicalText", apart := false }
def FnParseIntMatchesCanonicalTextSaid : Prop := fnParseIntMatchesCanonicalTextRow.holds Try.pinned (OpenSpec.ofChange fnParseIntMatchesCanonicalTextSpec)

/-- ITS FALSE NEIGHBOUR: 'it returns false'. Refute it at one input. -/
def fnParseIntMatchesCanonicalTextWrong : ChangeSpec := { name := "fnParseIntMatchesCanonicalText", fn := fun _ => fun
  | [d] => { results := [.lit (.bool false)], args := [d] }
  | _ => none }
def FnParseIntMatchesCanonicalTextWrongFalsely : Prop := fnParseIntMatchesCanonicalTextRow.holds Try.pinned (OpenSpec.ofChange fnParseIntMatchesCanonicalTextWrong)

/-- 'zzlaws_pkg_resp_b1.FnParseIntSignFlip': WHATEVER THE INPUT: true; the input reads as it did. -/
def fnParseIntSignFlipSpec : ChangeSpec := { name := "fnParseIntSignFlip", fn := fun _ => fun
  | [d] => { results := [.lit (.bool true)], args := [d] }
  | _ => none }
def fnParseIntSignFlipRow : OpenClaim := { program := "qxb6630744a", sum := "9b332a84cdd0f2795cda89d0bfe45f8b5eb37b1ea353ae7febc7ed0f61e6a0db", func := "example.com/holdfast/holdfast/zzlaws_pkg_resp_b1.FnParseIntSignFlip", spec := "fnParseIntSignFlip", apart := false }
def FnParseIntSignFlipSaid : Prop := fnParseIntSignFlipRow.holds Try.pinned (OpenSpec.ofChange fnParseIntSignFlipSpec)

/-- ITS FALSE NEIGHBOUR: 'it returns false'. Refute it at one input. -/
def fnParseIntSignFlipWrong : ChangeSpec := { name := "fnParseIntSignFlip", fn := fun _ => fun
  | [d] => { results := [.lit (.bool false)], args := [d] }
  | _ => none }
def FnParseIntSignFlipWrongFalsely : Prop := fnParseIntSignFlipRow.holds Try.pinned (OpenSpec.ofChange fnParseIntSignFlipWrong)

end Rows
end Go.Proofs.Qxb6630744a
