import Derived.Test.YbulkhboFmtLaw
namespace Go.Proofs.YbulkhboFmt
open Go.RowKit Go.Extern.Stop Go.Stop Go.Extern Go.Maps
set_option linter.unusedVariables false

theorem law_many (a0 : Option Addr) (n cap : Nat) (kf kc : ByteArray) (x y : Int) (w : World) (hn : 256 < n) :
    Calls Ybaf.prog 3 #[.slice a0 n cap, .string kf, .string kc, .int .u64 x, .int .u64 y] w fun e w' => e = .returned (.bool true) ∧ Below w.heap.size w w' := by
  go_enter Ybaf.func3, Ybaf.ntmps3
  go_wp2
  go_ret
  exact ⟨rfl, Below.refl _ _⟩

set_option maxRecDepth 100000 in
set_option maxHeartbeats 1000000 in
theorem law_none (F : Interp) (a0 : Option Addr) (cap : Nat) (kf kc : ByteArray) (x y : Int) (w : World) (hF : F.answers w.tape) (hkf : kf.size ≤ maxLen) :
    Calls Ybaf.prog 3 #[.slice a0 0 cap, .string kf, .string kc, .int .u64 x, .int .u64 y] w fun e w' => e = .returned (.bool true) ∧ Below w.heap.size w w' := by
  go_enter Ybaf.func3, Ybaf.ntmps3
  go_wp2
  refine wp_loop_rounds 1 ?_
  rw [rounds_succ]
  go_wp2_with fail
  refine (make_none a0 cap w).mono ?_
  rintro e w1 ⟨rfl, hown, hb1⟩
  have ho1 := hown.alloc (.cells #[.string kf, .string kc] 30)
  have hb2 : Below w.heap.size w (w1.alloc (.cells #[.string kf, .string kc] 30)) := hb1.alloc hb1.size _
  have hF1 : F.answers (w1.alloc (.cells #[.string kf, .string kc] 30)).tape := by rw [hb2.tape]; exact hF
  clear hown
  go_wp2_with fail
  refine wp_loop_rounds 1 ?_
  rw [rounds_succ]
  go_wp2_with fail
  refine (nav_missing F w.heap.size 0 (.map []) kf kc _ hF1 ho1 hkf rfl).mono ?_
  rintro e w2 ⟨p, rfl, hb3⟩
  go_wp2
  go_ret
  exact ⟨rfl, hb2.trans (hb3.mono hb2.size)⟩
end Go.Proofs.YbulkhboFmt
