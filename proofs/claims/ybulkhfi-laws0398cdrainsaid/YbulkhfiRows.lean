/-
  No cell of these rows narrows 'for every input' (looked for: loops, veiled, ifaces, maps, wideKeys, modest, calm, conditions, laid).
  DERIVED. THE GIVEN ROWS OF THIS SEAT. 3 by the template 'for every input the law returns true; each argument reads behind the call as it read before'; 0 by the template 'total and deterministic' (their statements: YbulkhfiTotals.lean).
  GIVEN WITH THE SEED: the statements are not yours to turn. If you find one false, say at which input.
  Laid BY PROGRAM, IN A SANDBOX (cutbox-rows.mjs): the forced cells as the released guide's own fill.sh prints them over the translation 6f6f4ab578da3192… (all of the seat's roots in one cut). By AI agents, Wed Nov 11 2026. No macro, syntax, notation, axiom, sorry.
-/
import Derived.Test.YbulkhfiChecked
import GoSem.Claim
import GoSem.ClaimJoined
import GoSem.ClaimMapViews
import Derived.JoinedTies
import Derived.KernelRfl
namespace Go.Proofs.Ybulkhfi
/- THE CELL 'sum', in the pinned program and in every row, IS THE sha256 OF THE DUMP (.gsa) THAT YbulkhfiProg.lean LOADS. Nothing in Lean hashes anything: it is a label: what it is worth is what the hold of that sum in a sandbox is worth. -/
noncomputable def Yba.pinned : Pinned := { name := "ybulkhfi", sum := "6f6f4ab578da3192a948ece48127345b32b6ccc29635bb28928240166c859d51", checked := Yba.checked }
namespace Rows
def none {H : Type} : Left H := { results := [], args := [] }

/-- 'fealty.LawS0398AExact': WHATEVER THE INPUT: true; the input reads as it did. -/
def lawS0398AExactSpec : ChangeSpec := { name := "lawS0398AExact", fn := fun _ => fun
  | [d1, d2, d3] => { results := [.lit (.bool true)], args := [d1, d2, d3] }
  | _ => none }
def lawS0398AExactRow : OpenClaim := { program := "ybulkhfi", sum := "6f6f4ab578da3192a948ece48127345b32b6ccc29635bb28928240166c859d51", func := "example.com/fealty/fealty.LawS0398AExact", spec := "lawS0398AExact", unfollowed := true, recurses := true, plainKeys := false, apart := false }
def LawS0398AExactSaid : Prop := lawS0398AExactRow.holds Yba.pinned (OpenSpec.ofChange lawS0398AExactSpec)

/-- ITS FALSE NEIGHBOUR: 'it returns false'. Refute it at one input. -/
def lawS0398AExactWrong : ChangeSpec := { name := "lawS0398AExact", fn := fun _ => fun
  | [d1, d2, d3] => { results := [.lit (.bool false)], args := [d1, d2, d3] }
  | _ => none }
def LawS0398AExactWrongFalsely : Prop := lawS0398AExactRow.holds Yba.pinned (OpenSpec.ofChange lawS0398AExactWrong)

/-- 'fealty.LawS0398AIdempotent': WHATEVER THE INPUT: true; the input reads as it did. -/
def lawS0398AIdempotentSpec : ChangeSpec := { name := "lawS0398AIdempotent", fn := fun _ => fun
  | [d1, d2, d3] => { results := [.lit (.bool true)], args := [d1, d2, d3] }
  | _ => none }
def lawS0398AIdempotentRow : OpenClaim := { program := "ybulkhfi", sum := "6f6f4ab578da3192a948ece48127345b32b6ccc29635bb28928240166c859d51", func := "example.com/fealty/fealty.LawS0398AIdempotent", spec := "lawS0398AIdempotent", unfollowed := true, recurses := true, plainKeys := false, apart := false }
def LawS0398AIdempotentSaid : Prop := lawS0398AIdempotentRow.holds Yba.pinned (OpenSpec.ofChange lawS0398AIdempotentSpec)

/-- ITS FALSE NEIGHBOUR: 'it returns false'. Refute it at one input. -/
def lawS0398AIdempotentWrong : ChangeSpec := { name := "lawS0398AIdempotent", fn := fun _ => fun
  | [d1, d2, d3] => { results := [.lit (.bool false)], args := [d1, d2, d3] }
  | _ => none }
def LawS0398AIdempotentWrongFalsely : Prop := lawS0398AIdempotentRow.holds Yba.pinned (OpenSpec.ofChange lawS0398AIdempotentWrong)

/-- 'cluster.LawS0398CDrain': WHATEVER THE INPUT: true; the input reads as it did. -/
def lawS0398CDrainSpec : ChangeSpec := { name := "lawS0398CDrain", fn := fun _ => fun
  | [d1, d2] => { results := [.lit (.bool true)], args := [d1, d2] }
  | _ => none }
def lawS0398CDrainRow : OpenClaim := { program := "ybulkhfi", sum := "6f6f4ab578da3192a948ece48127345b32b6ccc29635bb28928240166c859d51", func := "example.com/fealty/fealty/cluster.LawS0398CDrain", spec := "lawS0398CDrain", unfollowed := true, recurses := true, plainKeys := false, apart := false }
def LawS0398CDrainSaid : Prop := lawS0398CDrainRow.holds Yba.pinned (OpenSpec.ofChange lawS0398CDrainSpec)

/-- ITS FALSE NEIGHBOUR: 'it returns false'. Refute it at one input. -/
def lawS0398CDrainWrong : ChangeSpec := { name := "lawS0398CDrain", fn := fun _ => fun
  | [d1, d2] => { results := [.lit (.bool false)], args := [d1, d2] }
  | _ => none }
def LawS0398CDrainWrongFalsely : Prop := lawS0398CDrainRow.holds Yba.pinned (OpenSpec.ofChange lawS0398CDrainWrong)

end Rows
end Go.Proofs.Ybulkhfi
