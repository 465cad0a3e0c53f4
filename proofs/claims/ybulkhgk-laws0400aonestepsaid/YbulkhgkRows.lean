/-
  No cell of these rows narrows 'for every input' (looked for: loops, veiled, ifaces, maps, wideKeys, modest, calm, conditions, laid).
  DERIVED. THE GIVEN ROWS OF THIS SEAT. 2 by the template 'for every input the law returns true; each argument reads behind the call as it read before'; 0 by the template 'total and deterministic' (their statements: YbulkhgkTotals.lean).
  GIVEN WITH THE SEED: the statements are not yours to turn. If you find one false, say at which input.
  Laid BY PROGRAM, IN A SANDBOX (cutbox-rows.mjs): the forced cells as the released guide's own fill.sh prints them over the translation 40c94ae8598b9783… (all of the seat's roots in one cut). By AI agents, Wed Nov 11 2026. No macro, syntax, notation, axiom, sorry.
-/
import Derived.Test.YbulkhgkChecked
import GoSem.Claim
import GoSem.ClaimJoined
import GoSem.ClaimMapViews
import Derived.JoinedTies
import Derived.KernelRfl
namespace Go.Proofs.Ybulkhgk
/- THE CELL 'sum', in the pinned program and in every row, IS THE sha256 OF THE DUMP (.gsa) THAT YbulkhgkProg.lean LOADS. Nothing in Lean hashes anything: it is a label: what it is worth is what the hold of that sum in a sandbox is worth. -/
noncomputable def Yba.pinned : Pinned := { name := "ybulkhgk", sum := "40c94ae8598b97830d4e973360905e4fc53e5f66527978379f827eccee826993", checked := Yba.checked }
namespace Rows
def none {H : Type} : Left H := { results := [], args := [] }

/-- 'etcd.LawS0400AOneStep': WHATEVER THE INPUT: true; the input reads as it did. -/
def lawS0400AOneStepSpec : ChangeSpec := { name := "lawS0400AOneStep", fn := fun _ => fun
  | [d1, d2, d3] => { results := [.lit (.bool true)], args := [d1, d2, d3] }
  | _ => none }
def lawS0400AOneStepRow : OpenClaim := { program := "ybulkhgk", sum := "40c94ae8598b97830d4e973360905e4fc53e5f66527978379f827eccee826993", func := "interquorum.example/interquorum/etcd.LawS0400AOneStep", spec := "lawS0400AOneStep", apart := false }
def LawS0400AOneStepSaid : Prop := lawS0400AOneStepRow.holds Yba.pinned (OpenSpec.ofChange lawS0400AOneStepSpec)

/-- ITS FALSE NEIGHBOUR: 'it returns false'. Refute it at one input. -/
def lawS0400AOneStepWrong : ChangeSpec := { name := "lawS0400AOneStep", fn := fun _ => fun
  | [d1, d2, d3] => { results := [.lit (.bool false)], args := [d1, d2, d3] }
  | _ => none }
def LawS0400AOneStepWrongFalsely : Prop := lawS0400AOneStepRow.holds Yba.pinned (OpenSpec.ofChange lawS0400AOneStepWrong)

/-- 'etcd.LawS0400AScript': WHATEVER THE INPUT: true; the input reads as it did. -/
def lawS0400AScriptSpec : ChangeSpec := { name := "lawS0400AScript", fn := fun _ => fun
  | [d1, d2] => { results := [.lit (.bool true)], args := [d1, d2] }
  | _ => none }
def lawS0400AScriptRow : OpenClaim := { program := "ybulkhgk", sum := "40c94ae8598b97830d4e973360905e4fc53e5f66527978379f827eccee826993", func := "interquorum.example/interquorum/etcd.LawS0400AScript", spec := "lawS0400AScript", apart := false }
def LawS0400AScriptSaid : Prop := lawS0400AScriptRow.holds Yba.pinned (OpenSpec.ofChange lawS0400AScriptSpec)

/-- ITS FALSE NEIGHBOUR: 'it returns false'. Refute it at one input. -/
def lawS0400AScriptWrong : ChangeSpec := { name := "lawS0400AScript", fn := fun _ => fun
  | [d1, d2] => { results := [.lit (.bool false)], args := [d1, d2] }
  | _ => none }
def LawS0400AScriptWrongFalsely : Prop := lawS0400AScriptRow.holds Yba.pinned (OpenSpec.ofChange lawS0400AScriptWrong)

end Rows
end Go.Proofs.Ybulkhgk
