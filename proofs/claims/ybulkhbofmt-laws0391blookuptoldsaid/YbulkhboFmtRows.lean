/-
  No cell of these rows narrows 'for every input' (looked for: loops, veiled, ifaces, maps, wideKeys, modest, calm, conditions, laid).
  DERIVED. THE GIVEN ROWS OF THIS SEAT. 1 by the template 'for every input the law returns true; each argument reads behind the call as it read before'; 0 by the template 'total and deterministic' (their statements: YbulkhboFmtTotals.lean).
  GIVEN WITH THE SEED: the statements are not yours to turn. If you find one false, say at which input.
  Laid BY PROGRAM, IN A SANDBOX (cutbox-rows.mjs): the forced cells as the released guide's own fill.sh prints them over the translation b9e0c1f95627b9c9… (all of the seat's roots in one cut). By AI agents, Wed Nov 11 2026. No macro, syntax, notation, axiom, sorry.
-/
import Derived.Test.YbulkhboFmtChecked
import GoSem.Claim
import GoSem.ClaimJoined
import GoSem.ClaimMapViews
import Derived.JoinedTies
import Derived.KernelRfl
namespace Go.Proofs.YbulkhboFmt
/- THE CELL 'sum', in the pinned program and in every row, IS THE sha256 OF THE DUMP (.gsa) THAT YbulkhboFmtProg.lean LOADS. Nothing in Lean hashes anything: it is a label: what it is worth is what the hold of that sum in a sandbox is worth. -/
noncomputable def Ybaf.pinned : Pinned := { name := "ybulkhbofmt", sum := "b9e0c1f95627b9c9670b29bdd57645605d6934754c6e3d7422674dc29c2280fc", checked := Ybaf.checked }
namespace Rows
def none {H : Type} : Left H := { results := [], args := [] }

/-- 'review.LawS0391BLookup': WHATEVER THE INPUT: true; the input reads as it did. -/
def lawS0391BLookupSpec : ChangeSpec := { name := "lawS0391BLookup", fn := fun _ => fun
  | [d1, d2, d3, d4, d5] => { results := [.lit (.bool true)], args := [d1, d2, d3, d4, d5] }
  | _ => none }
def lawS0391BLookupRow : OpenClaim := { program := "ybulkhbofmt", sum := "b9e0c1f95627b9c9670b29bdd57645605d6934754c6e3d7422674dc29c2280fc", func := "example.com/tuoguan/tuoguan/review.LawS0391BLookup", spec := "lawS0391BLookup", stops := ["fmt.errorf"], inPlace := ["fmt.errorf"], unfollowed := true, recurses := true, apart := false }
/-- NO THEOREM (fmt's text is open here; it may be false): for the released tool's asking of the row's closed facts alone. THE STATEMENT IS 'LawS0391BLookupToldSaid' (YbulkhboFmtCards.lean). -/
def LawS0391BLookupFormAsk : Prop := lawS0391BLookupRow.holds Ybaf.pinned (OpenSpec.ofChange lawS0391BLookupSpec)

/-- ITS FALSE NEIGHBOUR: 'it returns false'. Refute it at one input. -/
def lawS0391BLookupWrong : ChangeSpec := { name := "lawS0391BLookup", fn := fun _ => fun
  | [d1, d2, d3, d4, d5] => { results := [.lit (.bool false)], args := [d1, d2, d3, d4, d5] }
  | _ => none }
def LawS0391BLookupWrongFormAsk : Prop := lawS0391BLookupRow.holds Ybaf.pinned (OpenSpec.ofChange lawS0391BLookupWrong)

end Rows
end Go.Proofs.YbulkhboFmt
