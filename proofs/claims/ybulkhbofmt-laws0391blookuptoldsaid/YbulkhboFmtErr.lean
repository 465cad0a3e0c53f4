import Derived.Test.YbulkhboFmtFacts
import Derived.WalkKit
import Derived.WalkSpells
import Derived.WalkLawsBesides
namespace Go.Proofs.YbulkhboFmt
open Go.RowKit Go.Extern.Stop Go.Stop Go.Extern
set_option linter.unusedVariables false
attribute [local go_sem] call8 guardE fmt0 fmt0r fmt1 fmt1r op9_115 op9_113 op9_115w op9_113w strict9 ptr53 elem53 isError53

/-- fmt.Errorf at the format of 'navDecimals': an error that is not nil; new memory alone. -/
theorem errorf0 (F : Interp) (s : ByteArray) (b : Nat) (w : World) (hF : F.answers w.tape) (hc : w.cell? ⟨b, 0, none⟩ = some (.iface 9 (.string s))) (hb : b < w.heap.size) :
    Calls Ybaf.prog 6 #[.string ⟨#[102, 117, 110, 100, 32, 37, 113, 32, 105, 115, 32, 110, 111, 116, 32, 111, 110, 101, 32, 111, 102, 32, 116, 104, 101, 32, 102, 117, 110, 100, 115, 32, 118, 97, 108, 117, 101, 100]⟩, .slice (some ⟨b, 0, none⟩) 1 1] w fun e w' =>
      e = .returned (.iface 53 (.pointer (some ⟨w.heap.size, 0, none⟩))) ∧ Below w.heap.size w w' := by
  have hF' := answers_open hF
  go_enter Ybaf.func6, Ybaf.ntmps6
  go_wp2
  go_ret
  exact ⟨rfl, ((Below.refl _ _).alloc (Nat.le_refl _) _).drew⟩

/-- .. at the format of 'CheckClass'. -/
theorem errorf1 (F : Interp) (s t : ByteArray) (b : Nat) (w : World) (hF : F.answers w.tape) (hc : w.cell? ⟨b, 0, none⟩ = some (.iface 9 (.string s))) (hd : w.cell? ⟨b, 1, none⟩ = some (.iface 9 (.string t))) (hb : b < w.heap.size) :
    Calls Ybaf.prog 6 #[.string ⟨#[102, 117, 110, 100, 32, 37, 115, 32, 104, 97, 115, 32, 110, 111, 32, 99, 108, 97, 115, 115, 32, 37, 113]⟩, .slice (some ⟨b, 0, none⟩) 2 2] w fun e w' =>
      e = .returned (.iface 53 (.pointer (some ⟨w.heap.size, 0, none⟩))) ∧ Below w.heap.size w w' := by
  have hF' := answers_open hF
  go_enter Ybaf.func6, Ybaf.ntmps6
  go_wp2
  go_ret
  exact ⟨rfl, ((Below.refl _ _).alloc (Nat.le_refl _) _).drew⟩
end Go.Proofs.YbulkhboFmt
