/-
  No cell of these rows narrows 'for every input' (looked for: loops, veiled, ifaces, maps, wideKeys, modest, calm, conditions, laid).
  DERIVED. THE GIVEN ROWS OF THIS SEAT. 3 by the template 'for every input the law returns true; each argument reads behind the call as it read before'; 0 by the template 'total and deterministic' (their statements: Qxb6600859aTotals.lean).
  GIVEN WITH THE SEED: the statements are not yours to turn. If you find one false, say at which input.
  Laid BY PROGRAM, IN A SANDBOX (cutbox-rows.mjs): the forced cells as the released guide's own fill.sh prints them over the translation 24704df893fa56d5… (all of the seat's roots in one cut). By AI agents, Wed Nov 11 2026. No macro, syntax, notation, axiom, sorry.
-/
import Derived.Test.Qxb6600859aChecked
import GoSem.Claim
import GoSem.ClaimJoined
import GoSem.ClaimMapViews
import Derived.JoinedTies
import Derived.KernelRfl
namespace Go.Proofs.Qxb6600859a
/- THE CELL 'sum', in the pinned program and in every row, IS THE sha256 OF THE DUMP (.gsa) THAT Qxb6600859aProg.lean LOADS. Nothing in Lean hashes anything: it is a label: what it is worth is what the hold of that sum in a sandbox is worth. -/
noncomputable def Try.pinned : Pinned := { name := "qxb6600859a", sum := "24704df893fa56d5ee5150e1f533729d2acb75d291aaca8273e347f64c221fa8", checked := Try.checked }
namespace Rows
def none {H : Type} : Left H := { results := [], args := [] }

/-- 'zzlaws_vex_b1.FnNameSetsRootFollowsLinks': WHATEVER THE INPUT: true; the input reads as it did. -/
def fnNameSetsRootFollowsLinksSpec : ChangeSpec := { name := "fnNameSetsRootFollowsLinks", fn := fun _ => fun
  | [d1, d2, d3] => { results := [.lit (.bool true)], args := [d1, d2, d3] }
  | _ => none }
def fnNameSetsRootFollowsLinksRow : OpenClaim := { program := "qxb6600859a", sum := "24704df893fa56d5ee5150e1f533729d2acb75d291aaca8273e347f64c221fa8", func := "example.com/exculpa/exculpa/zzlaws_vex_b1.FnNameSetsRootFollowsLinks", spec := "fnNameSetsRootFollowsLinks", apart := false }
def FnNameSetsRootFollowsLinksSaid : Prop := fnNameSetsRootFollowsLinksRow.holds Try.pinned (OpenSpec.ofChange fnNameSetsRootFollowsLinksSpec)

/-- ITS FALSE NEIGHBOUR: 'it returns false'. Refute it at one input. -/
def fnNameSetsRootFollowsLinksWrong : ChangeSpec := { name := "fnNameSetsRootFollowsLinks", fn := fun _ => fun
  | [d1, d2, d3] => { results := [.lit (.bool false)], args := [d1, d2, d3] }
  | _ => none }
def FnNameSetsRootFollowsLinksWrongFalsely : Prop := fnNameSetsRootFollowsLinksRow.holds Try.pinned (OpenSpec.ofChange fnNameSetsRootFollowsLinksWrong)

/-- 'zzlaws_vex_b1.FnNameSetsRootCompressesExactlyThePath': WHATEVER THE INPUT: true; the input reads as it did. -/
def fnNameSetsRootCompressesExactlyThePathSpec : ChangeSpec := { name := "fnNameSetsRootCompressesExactlyThePath", fn := fun _ => fun
  | [d1, d2, d3] => { results := [.lit (.bool true)], args := [d1, d2, d3] }
  | _ => none }
def fnNameSetsRootCompressesExactlyThePathRow : OpenClaim := { program := "qxb6600859a", sum := "24704df893fa56d5ee5150e1f533729d2acb75d291aaca8273e347f64c221fa8", func := "example.com/exculpa/exculpa/zzlaws_vex_b1.FnNameSetsRootCompressesExactlyThePath", spec := "fnNameSetsRootCompressesExactlyThePath", apart := false }
def FnNameSetsRootCompressesExactlyThePathSaid : Prop := fnNameSetsRootCompressesExactlyThePathRow.holds Try.pinned (OpenSpec.ofChange fnNameSetsRootCompressesExactlyThePathSpec)

/-- ITS FALSE NEIGHBOUR: 'it returns false'. Refute it at one input. -/
def fnNameSetsRootCompressesExactlyThePathWrong : ChangeSpec := { name := "fnNameSetsRootCompressesExactlyThePath", fn := fun _ => fun
  | [d1, d2, d3] => { results := [.lit (.bool false)], args := [d1, d2, d3] }
  | _ => none }
def FnNameSetsRootCompressesExactlyThePathWrongFalsely : Prop := fnNameSetsRootCompressesExactlyThePathRow.holds Try.pinned (OpenSpec.ofChange fnNameSetsRootCompressesExactlyThePathWrong)

/-- 'zzlaws_vex_b1.FnNameSetsRootIdempotentAndKeepsSets': WHATEVER THE INPUT: true; the input reads as it did. -/
def fnNameSetsRootIdempotentAndKeepsSetsSpec : ChangeSpec := { name := "fnNameSetsRootIdempotentAndKeepsSets", fn := fun _ => fun
  | [d1, d2, d3] => { results := [.lit (.bool true)], args := [d1, d2, d3] }
  | _ => none }
def fnNameSetsRootIdempotentAndKeepsSetsRow : OpenClaim := { program := "qxb6600859a", sum := "24704df893fa56d5ee5150e1f533729d2acb75d291aaca8273e347f64c221fa8", func := "example.com/exculpa/exculpa/zzlaws_vex_b1.FnNameSetsRootIdempotentAndKeepsSets", spec := "fnNameSetsRootIdempotentAndKeepsSets", apart := false }
def FnNameSetsRootIdempotentAndKeepsSetsSaid : Prop := fnNameSetsRootIdempotentAndKeepsSetsRow.holds Try.pinned (OpenSpec.ofChange fnNameSetsRootIdempotentAndKeepsSetsSpec)

/-- ITS FALSE NEIGHBOUR: 'it returns false'. Refute it at one input. -/
def fnNameSetsRootIdempotentAndKeepsSetsWrong : ChangeSpec := { name := "fnNameSetsRootIdempotentAndKeepsSets", fn := fun _ => fun
  | [d1, d2, d3] => { results := [.lit (.bool false)], args := [d1, d2, d3] }
  | _ => none }
def FnNameSetsRootIdempotentAndKeepsSetsWrongFalsely : Prop := fnNameSetsRootIdempotentAndKeepsSetsRow.holds Try.pinned (OpenSpec.ofChange fnNameSetsRootIdempotentAndKeepsSetsWrong)

end Rows
end Go.Proofs.Qxb6600859a
