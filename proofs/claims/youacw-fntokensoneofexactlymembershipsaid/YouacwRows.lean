/-
  No cell of these rows narrows 'for every input' (looked for: loops, veiled, ifaces, maps, wideKeys, modest, calm, conditions, laid).
  DERIVED. THE GIVEN ROWS OF THIS SEAT. 2 by the template 'for every input the law returns true; each argument reads behind the call as it read before'; 0 by the template 'total and deterministic' (their statements: YouacwTotals.lean).
  GIVEN WITH THE SEED: the statements are not yours to turn. If you find one false, say at which input.
  Laid BY PROGRAM, IN A SANDBOX (cutbox-rows.mjs): the forced cells as the released guide's own fill.sh prints them over the translation fec479fe646a383c… (all of the seat's roots in one cut). By AI agents, Wed Nov 11 2026. No macro, syntax, notation, axiom, sorry.
-/
import Derived.Test.YouacwChecked
import GoSem.Claim
import GoSem.ClaimJoined
import GoSem.ClaimMapViews
import Derived.JoinedTies
import Derived.KernelRfl
namespace Go.Proofs.Youacw
/- THE CELL 'sum', in the pinned program and in every row, IS THE sha256 OF THE DUMP (.gsa) THAT YouacwProg.lean LOADS. Nothing in Lean hashes anything: it is a label: what it is worth is what the hold of that sum in a sandbox is worth. -/
noncomputable def Uacg.pinned : Pinned := { name := "youacw", sum := "fec479fe646a383c0268a775eecea15a0206a35b191ef5bcd420d9444e6b6319", checked := Uacg.checked }
namespace Rows
def none {H : Type} : Left H := { results := [], args := [] }

/-- 'zzlaws_root_b1.FnTokensOneOfOverConcat': WHATEVER THE INPUT: true; the input reads as it did. -/
def fnTokensOneOfOverConcatSpec : ChangeSpec := { name := "fnTokensOneOfOverConcat", fn := fun _ => fun
  | [d1, d2, d3] => { results := [.lit (.bool true)], args := [d1, d2, d3] }
  | _ => none }
def fnTokensOneOfOverConcatRow : OpenClaim := { program := "youacw", sum := "fec479fe646a383c0268a775eecea15a0206a35b191ef5bcd420d9444e6b6319", func := "github.com/jmespath/go-jmespath/zzlaws_root_b1.FnTokensOneOfOverConcat", spec := "fnTokensOneOfOverConcat", apart := false }
def FnTokensOneOfOverConcatSaid : Prop := fnTokensOneOfOverConcatRow.holds Uacg.pinned (OpenSpec.ofChange fnTokensOneOfOverConcatSpec)

/-- ITS FALSE NEIGHBOUR: 'it returns false'. Refute it at one input. -/
def fnTokensOneOfOverConcatWrong : ChangeSpec := { name := "fnTokensOneOfOverConcat", fn := fun _ => fun
  | [d1, d2, d3] => { results := [.lit (.bool false)], args := [d1, d2, d3] }
  | _ => none }
def FnTokensOneOfOverConcatWrongFalsely : Prop := fnTokensOneOfOverConcatRow.holds Uacg.pinned (OpenSpec.ofChange fnTokensOneOfOverConcatWrong)

/-- 'zzlaws_root_b1.FnTokensOneOfExactlyMembership': WHATEVER THE INPUT: true; the input reads as it did. -/
def fnTokensOneOfExactlyMembershipSpec : ChangeSpec := { name := "fnTokensOneOfExactlyMembership", fn := fun _ => fun
  | [d1, d2] => { results := [.lit (.bool true)], args := [d1, d2] }
  | _ => none }
def fnTokensOneOfExactlyMembershipRow : OpenClaim := { program := "youacw", sum := "fec479fe646a383c0268a775eecea15a0206a35b191ef5bcd420d9444e6b6319", func := "github.com/jmespath/go-jmespath/zzlaws_root_b1.FnTokensOneOfExactlyMembership", spec := "fnTokensOneOfExactlyMembership", apart := false }
def FnTokensOneOfExactlyMembershipSaid : Prop := fnTokensOneOfExactlyMembershipRow.holds Uacg.pinned (OpenSpec.ofChange fnTokensOneOfExactlyMembershipSpec)

/-- ITS FALSE NEIGHBOUR: 'it returns false'. Refute it at one input. -/
def fnTokensOneOfExactlyMembershipWrong : ChangeSpec := { name := "fnTokensOneOfExactlyMembership", fn := fun _ => fun
  | [d1, d2] => { results := [.lit (.bool false)], args := [d1, d2] }
  | _ => none }
def FnTokensOneOfExactlyMembershipWrongFalsely : Prop := fnTokensOneOfExactlyMembershipRow.holds Uacg.pinned (OpenSpec.ofChange fnTokensOneOfExactlyMembershipWrong)

end Rows
end Go.Proofs.Youacw
