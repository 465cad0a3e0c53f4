/-
  No cell of these rows narrows 'for every input' (looked for: loops, veiled, ifaces, maps, wideKeys, modest, calm, conditions, laid).
  DERIVED. THE GIVEN ROWS OF THIS SEAT. 2 by the template 'for every input the law returns true; each argument reads behind the call as it read before'; 0 by the template 'total and deterministic' (their statements: YbulkhboTotals.lean).
  GIVEN WITH THE SEED: the statements are not yours to turn. If you find one false, say at which input.
  Laid BY PROGRAM, IN A SANDBOX (cutbox-rows.mjs): the forced cells as the released guide's own fill.sh prints them over the translation c0bc94922c798423… (all of the seat's roots in one cut). By AI agents, Wed Nov 11 2026. No macro, syntax, notation, axiom, sorry.
-/
import Derived.Test.YbulkhboChecked
import GoSem.Claim
import GoSem.ClaimJoined
import GoSem.ClaimMapViews
import Derived.JoinedTies
import Derived.KernelRfl
namespace Go.Proofs.Ybulkhbo
/- THE CELL 'sum', in the pinned program and in every row, IS THE sha256 OF THE DUMP (.gsa) THAT YbulkhboProg.lean LOADS. Nothing in Lean hashes anything: it is a label: what it is worth is what the hold of that sum in a sandbox is worth. -/
noncomputable def Yba.pinned : Pinned := { name := "ybulkhbo", sum := "c0bc94922c798423f5d6669e67a2532d723f94de1b45c43088d7bb50fe0c6e0b", checked := Yba.checked }
namespace Rows
def none {H : Type} : Left H := { results := [], args := [] }

/-- 'decimal.LawS0391CExact': WHATEVER THE INPUT: true; the input reads as it did. -/
def lawS0391CExactSpec : ChangeSpec := { name := "lawS0391CExact", fn := fun _ => fun
  | [d1, d2] => { results := [.lit (.bool true)], args := [d1, d2] }
  | _ => none }
def lawS0391CExactRow : OpenClaim := { program := "ybulkhbo", sum := "c0bc94922c798423f5d6669e67a2532d723f94de1b45c43088d7bb50fe0c6e0b", func := "example.com/tuoguan/tuoguan/decimal.LawS0391CExact", spec := "lawS0391CExact", apart := false }
def LawS0391CExactSaid : Prop := lawS0391CExactRow.holds Yba.pinned (OpenSpec.ofChange lawS0391CExactSpec)

/-- ITS FALSE NEIGHBOUR: 'it returns false'. Refute it at one input. -/
def lawS0391CExactWrong : ChangeSpec := { name := "lawS0391CExact", fn := fun _ => fun
  | [d1, d2] => { results := [.lit (.bool false)], args := [d1, d2] }
  | _ => none }
def LawS0391CExactWrongFalsely : Prop := lawS0391CExactRow.holds Yba.pinned (OpenSpec.ofChange lawS0391CExactWrong)

/-- 'decimal.LawS0391CCommutes': WHATEVER THE INPUT: true; the input reads as it did. -/
def lawS0391CCommutesSpec : ChangeSpec := { name := "lawS0391CCommutes", fn := fun _ => fun
  | [d1, d2] => { results := [.lit (.bool true)], args := [d1, d2] }
  | _ => none }
def lawS0391CCommutesRow : OpenClaim := { program := "ybulkhbo", sum := "c0bc94922c798423f5d6669e67a2532d723f94de1b45c43088d7bb50fe0c6e0b", func := "example.com/tuoguan/tuoguan/decimal.LawS0391CCommutes", spec := "lawS0391CCommutes", apart := false }
def LawS0391CCommutesSaid : Prop := lawS0391CCommutesRow.holds Yba.pinned (OpenSpec.ofChange lawS0391CCommutesSpec)

/-- ITS FALSE NEIGHBOUR: 'it returns false'. Refute it at one input. -/
def lawS0391CCommutesWrong : ChangeSpec := { name := "lawS0391CCommutes", fn := fun _ => fun
  | [d1, d2] => { results := [.lit (.bool false)], args := [d1, d2] }
  | _ => none }
def LawS0391CCommutesWrongFalsely : Prop := lawS0391CCommutesRow.holds Yba.pinned (OpenSpec.ofChange lawS0391CCommutesWrong)

end Rows
end Go.Proofs.Ybulkhbo
