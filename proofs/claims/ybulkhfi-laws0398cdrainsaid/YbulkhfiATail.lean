import Derived.WalkKit
import Derived.Deep.QuietTactic
import Derived.BigQuiet
import Derived.StillTail
namespace Go.Proofs.Ybulkhfi.A

/-! A REGION THAT DRAWS ITS ORDER, only reads ahead of operation n, and whose operations from n on follow one another (a call last, say): ONE walk, in the order of the text. The head goes by the cheap quiet step. -/
section
variable {P : Program} {ops : Array Oper} {w : World}

theorem still_of_quiet {o : Oper} {a : Act} {K K' : Act → Prop} (hk : ∀ a, K a → K' a) (h : o.quiet P a (fun w' => w' = w) K) : o.still P a w K' := by
  obtain ⟨v, h1, h2⟩ := h
  have h3 := h1 w rfl
  unfold Oper.quietAt at h3
  unfold Oper.still
  generalize (execOp a.eval o).run P w = r at *
  cases r with
  | ok n w' =>
    cases n <;> simp only [Oper.quietUpon] at h3 <;> simp only [Oper.stillUpon]
    case value u =>
      obtain ⟨e1, e2⟩ := h3
      rw [e2]
      exact ⟨e1, hk _ h2⟩
    case skip =>
      obtain ⟨e1, e2⟩ := h3
      rw [← e2]
      exact ⟨e1, hk _ h2⟩
    case enter f args =>
      exact ⟨h3.1, v, h3.2, hk _ h2⟩
  | halt x w' => simp only [Oper.quietUpon] at h3

theorem wpStill_of_quiet {Q : Act → Prop} : ∀ (l : List Oper) (a : Act), wpQuiet P ops (fun w' => w' = w) Q l a → wpStill P ops w Q l a
  | [], a, h => h
  | o :: rest, a, h => by
    unfold wpQuiet at h
    unfold wpStill
    split at h
    · rename_i hw
      rw [if_pos hw]
      exact still_of_quiet (fun a' => wpStill_of_quiet rest a') h
    · rename_i hw
      rw [if_neg hw]
      exact wpStill_of_quiet rest _ h

theorem wp_region_tail {id : Nat} {Q : Exit → Act → World → Prop} {a : Act} {l : List Oper} (n : Nat) (hm : P.follows .mixedOrders = true) (hB : Region.lexTailB .any l.toArray n = true)
    (h : wpQuiet P l.toArray (fun w' => w' = w.drew) (fun a' => wpList P l.toArray Q (l.drop n) a' w.drew) (l.take n) a) : (Code.region id l.toArray true).wp P Q a w :=
  wp_region_still_tail n hm hB (wpStill_of_quiet _ _ h)
end
end Go.Proofs.Ybulkhfi.A
