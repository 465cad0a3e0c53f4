import Derived.Test.YbulkhboFmtMake
import Derived.Deep.WholeRow
namespace Go.Proofs.YbulkhboFmt
open Go.RowKit Go.Extern.Stop Go.Stop Go.Extern Go.Maps
set_option linter.unusedVariables false

theorem make_none (a0 : Option Addr) (cap : Nat) (w : World) :
    Calls Ybaf.prog 4 #[.slice a0 0 cap] w fun e w' => e = .returned (.map (some w.heap.size)) ∧ w'.ownsMap Ybaf.prog 9 heldV w.heap.size 0 (.map []) ∧ Below w.heap.size w w' := by
  have hmm := run_makeMap27
  go_enter Ybaf.func4, Ybaf.ntmps4
  have hm0 : ∀ w : World, (Instr.makeMap 27 (some (.int .i64 0))).run Ybaf.prog w = .ok (.map (some w.heap.size)) (w.alloc (.map #[] 0)) := run_makeMap27 0
  go_wp2
  refine wp_loop_rounds 1 ?_
  rw [rounds_succ]
  go_wp2
  go_ret
  exact ⟨rfl, World.ownsMap_made _ _ _ _, (Below.refl _ _).alloc (Nat.le_refl _) _⟩

theorem cell_last (w : World) (cs : Array Value) (t : TypeId) (j g : Nat) (hg : g = w.heap.size) : (w.alloc (.cells cs t)).cell? ⟨g, j, none⟩ = cs[j]? := by
  subst hg
  exact cell_of_row _ _ j cs t (0, 0) (heap_alloc_last w _)

def zeroFund : Value := fundV ⟨#[]⟩ 0 (.slice none 0 0)
theorem zero45 (w : World) : (zeroValue 45).run Ybaf.prog w = .ok zeroFund w := by kernel_rfl

section
variable {ops : Array Oper} {rest : List Oper} {o : Oper} {a : Act} {Q : Exit → Act → World → Prop}
/-- 'f, ok := funds[key]' where the key is there. -/
theorem wpList_hit (w : World) (hg : o.guard = none) (m x : Operand) (hop : o.op = Op.lookup 27 m x true) (b n : Nat) (D : DataW Value) (hm : a.eval m = .map (some b)) (hown : w.ownsMap Ybaf.prog 9 heldV b n D)
    (key : ByteArray) (hx : a.eval x = .string key) (hs : key.size ≤ maxLen) (code : ByteArray) (nav : Int) (cls : Value) (hh : Maps.has D (.string key.data.toList) = true) (hat : ∀ z, D.atKey (.string key.data.toList) z = .held (fundV code nav cls))
    (hK : wpList Ybaf.prog ops Q rest (a.put o.dst (.tuple #[.agg #[.string code, .string ⟨#[]⟩, .int .i64 nav, .int .i64 0, .pointer none, .int .i64 0, .pointer none, .int .i64 0, .pointer none, .int .i64 0, .int .i64 0, .pointer none, .int .i64 0, .int .i64 0, .pointer none, .int .i64 0, cls, .slice none 0 0], .bool true])) w) : wpList Ybaf.prog ops Q (o :: rest) a w := by
  refine wpList_lookup_own_ok w hg m x 27 hop 9 45 law9 Ybaf.underlying27 heldV (zero45 w) (.held zeroFund) [] rfl b n D hm hown (.string key) (.string key.data.toList) hx (WideMaps.keyOf_string_mk Ybaf.underlying9 hs) ?_
  intro v ps hv
  rw [hat, heldV] at hv
  simp only [Option.some.injEq, Prod.mk.injEq, DataW.held.injEq] at hv
  rw [hv.1, hh]
  exact hK

/-- .. and where it is not. -/
theorem wpList_miss (w : World) (hg : o.guard = none) (m x : Operand) (hop : o.op = Op.lookup 27 m x true) (b n : Nat) (D : DataW Value) (hm : a.eval m = .map (some b)) (hown : w.ownsMap Ybaf.prog 9 heldV b n D)
    (key : ByteArray) (hx : a.eval x = .string key) (hs : key.size ≤ maxLen) (hh : Maps.has D (.string key.data.toList) = false)
    (hK : wpList Ybaf.prog ops Q rest (a.put o.dst (.tuple #[.agg #[.string ⟨#[]⟩, .string ⟨#[]⟩, .int .i64 0, .int .i64 0, .pointer none, .int .i64 0, .pointer none, .int .i64 0, .pointer none, .int .i64 0, .int .i64 0, .pointer none, .int .i64 0, .int .i64 0, .pointer none, .int .i64 0, .slice none 0 0, .slice none 0 0], .bool false])) w) : wpList Ybaf.prog ops Q (o :: rest) a w := by
  refine wpList_lookup_own_ok w hg m x 27 hop 9 45 law9 Ybaf.underlying27 heldV (zero45 w) (.held zeroFund) [] rfl b n D hm hown (.string key) (.string key.data.toList) hx (WideMaps.keyOf_string_mk Ybaf.underlying9 hs) ?_
  intro v ps hv
  rw [Maps.atKey_of_not_has hh, heldV] at hv
  simp only [Option.some.injEq, Prod.mk.injEq, DataW.held.injEq] at hv
  rw [hv.1, hh]
  exact hK

theorem size45 : (Ybaf.prog.info? 45).map (·.size) = some 18 := by kernel_rfl

/-- A whole fund stored into the block that was made last: no cell is looked at. -/
theorem wpList_store45 (w : World) (hg : o.guard = none) (x y : Operand) (hop : o.op = .store 45 x y) (code : ByteArray) (nav : Int) (ao : Option Addr) (m cap : Nat) (gg : Nat) (hgg : gg = w.heap.size) (hx : a.eval x = .pointer (some ⟨gg, 0, none⟩)) (hy : a.eval y = .agg #[.string code, .string ⟨#[]⟩, .int .i64 nav, .int .i64 0, .pointer none, .int .i64 0, .pointer none, .int .i64 0, .pointer none, .int .i64 0, .int .i64 0, .pointer none, .int .i64 0, .int .i64 0, .pointer none, .int .i64 0, .slice ao m cap, .slice none 0 0])
    (hK : wpList Ybaf.prog ops Q rest (a.put o.dst undef) (w.alloc (.cells #[.string code, .string ⟨#[]⟩, .int .i64 nav, .int .i64 0, .pointer none, .int .i64 0, .pointer none, .int .i64 0, .pointer none, .int .i64 0, .int .i64 0, .pointer none, .int .i64 0, .int .i64 0, .pointer none, .int .i64 0, .slice ao m cap, .slice none 0 0] 45))) : wpList Ybaf.prog ops Q (o :: rest) a (w.alloc (.cells #[.string ⟨#[]⟩, .string ⟨#[]⟩, .int .i64 0, .int .i64 0, .pointer none, .int .i64 0, .pointer none, .int .i64 0, .pointer none, .int .i64 0, .int .i64 0, .pointer none, .int .i64 0, .int .i64 0, .pointer none, .int .i64 0, .slice none 0 0, .slice none 0 0] 45)) :=
  wpList_store_row hg 45 x y hop gg _ hx hy 45 _ (hgg ▸ heap_alloc_last w _) (by rw [size45]; simp) (by simp) (by simp [Value.oneCell']) (by rw [hgg, World.setRow_alloc_new]; exact hK)

/-- .. and loaded from it. -/
theorem wpList_load45 (w : World) (hg : o.guard = none) (x : Operand) (hop : o.op = .load 45 x) (code : ByteArray) (nav : Int) (ao : Option Addr) (m cap : Nat) (gg : Nat) (hgg : gg = w.heap.size) (hx : a.eval x = .pointer (some ⟨gg, 0, none⟩))
    (hK : wpList Ybaf.prog ops Q rest (a.put o.dst (.agg #[.string code, .string ⟨#[]⟩, .int .i64 nav, .int .i64 0, .pointer none, .int .i64 0, .pointer none, .int .i64 0, .pointer none, .int .i64 0, .int .i64 0, .pointer none, .int .i64 0, .int .i64 0, .pointer none, .int .i64 0, .slice ao m cap, .slice none 0 0])) (w.alloc (.cells #[.string code, .string ⟨#[]⟩, .int .i64 nav, .int .i64 0, .pointer none, .int .i64 0, .pointer none, .int .i64 0, .pointer none, .int .i64 0, .int .i64 0, .pointer none, .int .i64 0, .int .i64 0, .pointer none, .int .i64 0, .slice ao m cap, .slice none 0 0] 45))) : wpList Ybaf.prog ops Q (o :: rest) a (w.alloc (.cells #[.string code, .string ⟨#[]⟩, .int .i64 nav, .int .i64 0, .pointer none, .int .i64 0, .pointer none, .int .i64 0, .pointer none, .int .i64 0, .int .i64 0, .pointer none, .int .i64 0, .int .i64 0, .pointer none, .int .i64 0, .slice ao m cap, .slice none 0 0] 45)) :=
  wpList_load_row hg 45 x hop gg hx 45 _ (0, 0) _ (hgg ▸ heap_alloc_last w _) Ybaf.underlying45 rfl (by rw [size45]; simp) hK
end

set_option maxHeartbeats 400000 in
theorem nav_missing (F : Interp) (b n : Nat) (D : DataW Value) (kf kc : ByteArray) (w : World) (hF : F.answers w.tape) (hown : w.ownsMap Ybaf.prog 9 heldV b n D) (hs : kf.size ≤ maxLen) (hh : Maps.has D (.string kf.data.toList) = false) :
    Calls Ybaf.prog 5 #[.map (some b), .agg #[.string kf, .string kc]] w fun e w' => ∃ p, e = .returned (.tuple #[.int .i64 0, .iface 53 (.pointer (some ⟨p, 0, none⟩))]) ∧ Below w.heap.size w w' := by
  have ho1 := hown.alloc (.cells #[.string kf, .string kc] 30)
  go_enter Ybaf.func5, Ybaf.ntmps5
  go_wp2_with (first | (at_lookup; refine wpList_miss _ rfl _ _ rfl b n D rfl ho1 kf rfl hs hh ?_) | (refine wpList_store45 _ rfl (.tmp 6) (.tmp 14) rfl _ _ _ _ _ (w.heap.size + 1) (by simp) rfl rfl ?_) | (refine wpList_load45 _ rfl (.tmp 6) rfl _ _ _ _ _ (w.heap.size + 1) (by simp) rfl ?_))
  refine (errorf0 F kf (w.heap.size + 1 + 1) _ (by exact hF) ((cell_last _ _ _ 0 _ (by simp)).trans rfl) (by simp)).mono ?_
  rintro e w1 ⟨rfl, hb1⟩
  go_wp2
  go_ret2
  exact ⟨_, rfl, ((((Below.refl _ _).alloc (Nat.le_refl _) _).alloc (by simp) _).alloc (by simp; omega) _).trans (hb1.mono (by simp; omega))⟩

set_option maxHeartbeats 400000 in
theorem nav_yes (b n : Nat) (D : DataW Value) (kf kc : ByteArray) (code : ByteArray) (nav : Int) (g m cap : Nat) (cs : Nat → ByteArray) (w : World) (hown : w.ownsMap Ybaf.prog 9 heldV b n D) (hs : kf.size ≤ maxLen) (hh : Maps.has D (.string kf.data.toList) = true)
    (hat : ∀ z, D.atKey (.string kf.data.toList) z = .held (fundV code nav (.slice (some ⟨g, 0, none⟩) m cap))) (hm : m ≤ 256) (hg : g < w.heap.size) (hC : Classes w g m cs) (hyes : ∃ j, j < m ∧ eqS (cs j) kc = true) :
    Calls Ybaf.prog 5 #[.map (some b), .agg #[.string kf, .string kc]] w fun e w' => e = .returned (.tuple #[.int .i64 nav, .nilIface]) ∧ Below w.heap.size w w' := by
  have ho1 := hown.alloc (.cells #[.string kf, .string kc] 30)
  have HY : Hid (∃ j, j < m ∧ eqS (cs j) kc = true) := hyes
  have HA : Hid (∀ z, D.atKey (.string kf.data.toList) z = .held (fundV code nav (.slice (some ⟨g, 0, none⟩) m cap))) := hat
  clear hyes hat
  go_enter Ybaf.func5, Ybaf.ntmps5
  go_wp2_with (first | (at_lookup; refine wpList_hit _ rfl _ _ rfl b n D rfl ho1 kf rfl hs code nav (.slice (some ⟨g, 0, none⟩) m cap) hh HA.out ?_) | (refine wpList_store45 _ rfl (.tmp 6) (.tmp 14) rfl _ _ _ _ _ (w.heap.size + 1) (by simp) rfl rfl ?_) | (refine wpList_load45 _ rfl (.tmp 6) rfl _ _ _ _ _ (w.heap.size + 1) (by simp) rfl ?_))
  have hb0 := ((Below.refl w.heap.size w).alloc (Nat.le_refl _) (.cells #[.string kf, .string kc] 30)).alloc (by simp) (.cells #[.string code, .string ⟨#[]⟩, .int .i64 nav, .int .i64 0, .pointer none, .int .i64 0, .pointer none, .int .i64 0, .pointer none, .int .i64 0, .int .i64 0, .pointer none, .int .i64 0, .int .i64 0, .pointer none, .int .i64 0, .slice (some ⟨g, 0, none⟩) m cap, .slice none 0 0] 45)
  refine (check_yes code nav g m cap cs kc _ hm (by simp; omega) (hC.later hb0 hg) HY.out).mono ?_
  rintro e w1 ⟨rfl, hb1⟩
  have hz : w.heap.size + 1 < w1.heap.size := by have := hb1.size; simp at this; omega
  have n0 : w1.cell? ⟨w.heap.size + 1, 2, none⟩ = some (.int .i64 nav) := (hb1.cell (by simp)).trans ((cell_last _ _ _ 2 _ (by simp)).trans rfl)
  have hb2 := hb0.trans (hb1.mono (by simp; omega))
  clear hC HA ho1 hown
  go_wp2
  go_ret2
  exact ⟨rfl, hb2⟩

set_option maxHeartbeats 400000 in
theorem nav_no (F : Interp) (b n : Nat) (D : DataW Value) (kf kc : ByteArray) (code : ByteArray) (nav : Int) (g m cap : Nat) (cs : Nat → ByteArray) (w : World) (hF : F.answers w.tape) (hown : w.ownsMap Ybaf.prog 9 heldV b n D) (hs : kf.size ≤ maxLen) (hh : Maps.has D (.string kf.data.toList) = true)
    (hat : ∀ z, D.atKey (.string kf.data.toList) z = .held (fundV code nav (.slice (some ⟨g, 0, none⟩) m cap))) (hm : m ≤ 256) (hg : g < w.heap.size) (hC : Classes w g m cs) (hno : ∀ j, j < m → eqS (cs j) kc = false) :
    Calls Ybaf.prog 5 #[.map (some b), .agg #[.string kf, .string kc]] w fun e w' => ∃ p, e = .returned (.tuple #[.int .i64 0, .iface 53 (.pointer (some ⟨p, 0, none⟩))]) ∧ Below w.heap.size w w' := by
  have ho1 := hown.alloc (.cells #[.string kf, .string kc] 30)
  have HY : Hid (∀ j, j < m → eqS (cs j) kc = false) := hno
  have HA : Hid (∀ z, D.atKey (.string kf.data.toList) z = .held (fundV code nav (.slice (some ⟨g, 0, none⟩) m cap))) := hat
  clear hno hat
  go_enter Ybaf.func5, Ybaf.ntmps5
  go_wp2_with (first | (at_lookup; refine wpList_hit _ rfl _ _ rfl b n D rfl ho1 kf rfl hs code nav (.slice (some ⟨g, 0, none⟩) m cap) hh HA.out ?_) | (refine wpList_store45 _ rfl (.tmp 6) (.tmp 14) rfl _ _ _ _ _ (w.heap.size + 1) (by simp) rfl rfl ?_) | (refine wpList_load45 _ rfl (.tmp 6) rfl _ _ _ _ _ (w.heap.size + 1) (by simp) rfl ?_))
  have hb0 := ((Below.refl w.heap.size w).alloc (Nat.le_refl _) (.cells #[.string kf, .string kc] 30)).alloc (by simp) (.cells #[.string code, .string ⟨#[]⟩, .int .i64 nav, .int .i64 0, .pointer none, .int .i64 0, .pointer none, .int .i64 0, .pointer none, .int .i64 0, .int .i64 0, .pointer none, .int .i64 0, .int .i64 0, .pointer none, .int .i64 0, .slice (some ⟨g, 0, none⟩) m cap, .slice none 0 0] 45)
  refine (check_no F code nav g m cap cs kc _ (by exact hF) hm (by simp; omega) (hC.later hb0 hg) HY.out).mono ?_
  rintro e w1 ⟨p, rfl, hb1⟩
  have hb2 := hb0.trans (hb1.mono (by simp; omega))
  clear hC HA ho1 hown
  go_wp2
  go_ret2
  exact ⟨p, rfl, hb2⟩
end Go.Proofs.YbulkhboFmt
