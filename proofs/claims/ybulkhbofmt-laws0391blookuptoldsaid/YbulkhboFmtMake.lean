import Derived.Test.YbulkhboFmtFind
import Derived.Maps.OwnSet
import Derived.Deep.LoopGhost
namespace Go.Proofs.YbulkhboFmt
open Go.RowKit Go.Extern.Stop Go.Stop Go.Extern Go.Maps
set_option linter.unusedVariables false

theorem run_makeMap27 (n : Nat) (w : World) : (Instr.makeMap 27 (some (.int .i64 n))).run Ybaf.prog w = .ok (.map (some w.heap.size)) (w.alloc (.map #[] 0)) := by
  simp [Instr.makeMap, run_underlying Ybaf.underlying27, asInt, asIntOf]

theorem law9 : Keyed Ybaf.prog 9 := string_keyed Ybaf.underlying9
theorem info41 : (Ybaf.prog.info? 41).map (fun i => (i.zero, i.size, i.bytes)) = some (some (.agg #[.string ⟨#[]⟩, .int .i64 0, .pointer none, .int .i64 0]), 4, 40) := by kernel_rfl

/-- How an element of our map reads: as itself. -/
def heldV (v : Value) : Option (DataW Value × List MemPlace) := some (.held v, [])

/-- One string slice among the funds: nothing in it, or its cells lie in memory. -/
def StrsAt (w : World) (ca : Option Addr) (n : Nat) (cs : Nat → ByteArray) : Prop :=
  n = 0 ∨ ∃ b o, ca = some ⟨b, o, none⟩ ∧ b < w.heap.size ∧ ∀ j, j < n → w.cell? ⟨b, o + j, none⟩ = some (.string (cs j))

/-- The funds that came in. -/
structure Funds (w : World) (b off n : Nat) (code : Nat → ByteArray) (nav : Nat → Int) (ca : Nat → Option Addr) (cl cc : Nat → Nat) (cs : Nat → Nat → ByteArray) : Prop where
  lt : b < w.heap.size
  cells : ∀ i, i < n → w.cell? ⟨b, off + i * 3, none⟩ = some (.string (code i)) ∧ w.cell? ⟨b, off + i * 3 + 1, none⟩ = some (.int .i64 (nav i)) ∧ w.cell? ⟨b, off + i * 3 + 2, none⟩ = some (.slice (ca i) (cl i) (cc i))
  strs : ∀ i, i < n → StrsAt w (ca i) (cl i) (cs i)
  few : ∀ i, i < n → cl i ≤ 256
  short : ∀ i, i < n → (code i).size ≤ maxLen

/-- What the map holds at one key, k funds in. -/
def Found (w : World) (B k : Nat) (code : Nat → ByteArray) (nav : Nat → Int) (cl : Nat → Nat) (cs : Nat → Nat → ByteArray) (D : DataW Value) (key : ByteArray) : Prop :=
  (Maps.has D (.string key.data.toList) = false ∧ ∀ j, j < k → code j ≠ key) ∨
  (∃ j g, j < k ∧ code j = key ∧ (∀ j', j < j' → j' < k → code j' ≠ key) ∧ B < g ∧ g < w.heap.size ∧ Classes w g (cl j) (cs j) ∧ Maps.has D (.string key.data.toList) = true ∧
    ∀ z, D.atKey (.string key.data.toList) z = .held (fundV (code j) (nav j) (.slice (some ⟨g, 0, none⟩) (cl j) (cl j))))

def classCells (cs : Nat → ByteArray) : Nat → List Value
  | 0 => []
  | m + 1 => classCells cs m ++ [.string (cs m), .int .i64 0, .pointer none, .int .i64 0]

theorem classCells_length (cs : Nat → ByteArray) : ∀ m, (classCells cs m).length = m * 4
  | 0 => rfl
  | m + 1 => by simp [classCells, classCells_length cs m]; omega

theorem classCells_at (cs : Nat → ByteArray) : ∀ m j, j < m → (classCells cs m)[j * 4]? = some (.string (cs j)) ∧ (classCells cs m)[j * 4 + 1]? = some (.int .i64 0) ∧ (classCells cs m)[j * 4 + 2]? = some (.pointer none) ∧ (classCells cs m)[j * 4 + 3]? = some (.int .i64 0)
  | 0, j, h => by omega
  | m + 1, j, h => by
    have hl := classCells_length cs m
    rcases Nat.lt_or_ge j m with h1 | h1
    · obtain ⟨a, b, c, d⟩ := classCells_at cs m j h1
      unfold classCells
      refine ⟨?_, ?_, ?_, ?_⟩
      · rw [List.getElem?_append_left (by omega)]; exact a
      · rw [List.getElem?_append_left (by omega)]; exact b
      · rw [List.getElem?_append_left (by omega)]; exact c
      · rw [List.getElem?_append_left (by omega)]; exact d
    · obtain rfl : j = m := by omega
      unfold classCells
      refine ⟨?_, ?_, ?_, ?_⟩
      · rw [List.getElem?_append_right (by omega), show j * 4 - (classCells cs j).length = 0 from by omega]; rfl
      · rw [List.getElem?_append_right (by omega), show j * 4 + 1 - (classCells cs j).length = 1 from by omega]; rfl
      · rw [List.getElem?_append_right (by omega), show j * 4 + 2 - (classCells cs j).length = 2 from by omega]; rfl
      · rw [List.getElem?_append_right (by omega), show j * 4 + 3 - (classCells cs j).length = 3 from by omega]; rfl

theorem classes_of_row {w : World} {base g m cap : Nat} {cs : Nat → ByteArray} (h : w.ownsRow base 41 4 (.slice (some ⟨g, 0, none⟩) m cap) m (classCells cs m)) : Classes w g m cs := by
  intro j hj
  obtain ⟨a, b, c, d⟩ := classCells_at cs m j hj
  exact ⟨(h.cellAt _ (by omega)).trans a, (h.cellAt _ (by omega)).trans b, (h.cellAt _ (by omega)).trans c, (h.cellAt _ (by omega)).trans d⟩

theorem Classes.block {w w' : World} {g n : Nat} {cs : Nat → ByteArray} (h : Classes w g n cs) (hb : w'.heap[g]? = w.heap[g]?) : Classes w' g n cs := by
  intro j hj
  obtain ⟨c0, c1, c2, c3⟩ := h j hj
  exact ⟨(World.cell?_of_block (w := w) hb).trans c0, (World.cell?_of_block (w := w) hb).trans c1, (World.cell?_of_block (w := w) hb).trans c2, (World.cell?_of_block (w := w) hb).trans c3⟩

theorem news4 (w : World) (s : ByteArray) : ∀ j u, [Value.string s, .int .i64 0, .pointer none, .int .i64 0][j]? = some u → (w.alloc (.cells #[.string s, .int .i64 0, .pointer none, .int .i64 0] 41)).cell? ((⟨w.heap.size, 0, none⟩ : Addr).add j) = some u := by
  intro j u hj
  match j, hj with
  | 0, hj => simp at hj; subst hj; simp [Addr.add]
  | 1, hj => simp at hj; subst hj; simp [Addr.add]
  | 2, hj => simp at hj; subst hj; simp [Addr.add]
  | 3, hj => simp at hj; subst hj; simp [Addr.add]

theorem one4 (s : ByteArray) : ∀ u ∈ [Value.string s, .int .i64 0, .pointer none, .int .i64 0], u.oneCell' = true := by
  intro u hu
  simp at hu
  rcases hu with rfl | rfl | rfl | rfl <;> rfl

theorem ownsMap_block {H : Type} {P : Program} {w w' : World} {k : TypeId} {R : Value → Option (DataW H × List MemPlace)} {b n : Nat} {D : DataW H} (h : w.ownsMap P k R b n D) (hb : w'.heap[b]? = w.heap[b]?) : w'.ownsMap P k R b n D := by
  obtain ⟨es, clock, h1, h2, h3, h4⟩ := h
  exact ⟨es, clock, hb.trans h1, h2, h3, h4⟩

theorem found_step {wo w2 : World} {B k g : Nat} {code : Nat → ByteArray} {nav : Nat → Int} {cl : Nat → Nat} {cs : Nat → Nat → ByteArray} {D : DataW Value} (hD : Maps.IsMap D) (hF : ∀ key, Found wo B k code nav cl cs D key)
    (hsz : wo.heap.size ≤ w2.heap.size) (hold : ∀ i, B < i → i < wo.heap.size → w2.heap[i]? = wo.heap[i]?) (hB : B < g) (hg : g < w2.heap.size) (hC : Classes w2 g (cl k) (cs k)) :
    ∀ key, Found w2 B (k + 1) code nav cl cs (D.put (.string (code k).data.toList) (.held (fundV (code k) (nav k) (.slice (some ⟨g, 0, none⟩) (cl k) (cl k))))) key := by
  intro key
  by_cases he : code k = key
  · subst he
    exact .inr ⟨k, g, by omega, rfl, fun j' h1 h2 => by omega, hB, hg, hC, Maps.has_put_same hD (by simp [WideAt.IsKeyLit]) _, fun z => Maps.atKey_put_same hD (by simp [WideAt.IsKeyLit]) _ _⟩
  · have hne : (Lit.string key.data.toList) ≠ .string (code k).data.toList := by
      intro h
      apply he
      injection h with h
      have h2 : key.data = (code k).data := Array.toList_inj.1 h
      cases hk : code k
      cases key
      simp_all
    rcases hF key with ⟨h1, h2⟩ | ⟨j, g', hj, hcj, hlast, hB', hg', hC', hh, hat⟩
    · refine .inl ⟨by rw [Maps.has_put_other hne]; exact h1, fun j hj => ?_⟩
      rcases Nat.lt_or_ge j k with h | h
      · exact h2 j h
      · obtain rfl : j = k := by omega
        exact he
    · refine .inr ⟨j, g', by omega, hcj, fun j' h1 h2 => ?_, hB', by omega, hC'.block (hold g' hB' hg'), by rw [Maps.has_put_other hne]; exact hh, fun z => by rw [Maps.atKey_put_other hne]; exact hat z⟩
      rcases Nat.lt_or_ge j' k with h | h
      · exact hlast j' h1 h
      · obtain rfl : j' = k := by omega
        exact he

set_option maxHeartbeats 1000000 in
theorem make_any (b off n cap : Nat) (code : Nat → ByteArray) (nav : Nat → Int) (ca : Nat → Option Addr) (cl cc : Nat → Nat) (cs : Nat → Nat → ByteArray) (w : World) (hn : n ≤ 256) (hI : Funds w b off n code nav ca cl cc cs) :
    Calls Ybaf.prog 4 #[.slice (some ⟨b, off, none⟩) n cap] w fun e w' => ∃ D, e = .returned (.map (some w.heap.size)) ∧ w'.ownsMap Ybaf.prog 9 heldV w.heap.size n D ∧ (∀ key, Found w' w.heap.size n code nav cl cs D key) ∧ Below w.heap.size w w' := by
  have hmm := run_makeMap27
  obtain ⟨i0, hi, hz0, hz1, hz2⟩ := info_parts info41
  have hbw := hI.lt
  go_enter Ybaf.func4, Ybaf.ntmps4
  go_wp2
  go_loopw [14] (fun i wr => ∃ (k : Nat) (D : DataW Value), k ≤ n ∧ i = .int .i64 k ∧ Below w.heap.size w wr ∧ wr.ownsMap Ybaf.prog 9 heldV w.heap.size k D ∧ ∀ key, Found wr w.heap.size k code nav cl cs D key) (fun i _ => n - (intOf i).toNat)
  case atStart => exact ⟨0, .map [], Nat.zero_le _, rfl, (Below.refl _ _).alloc (Nat.le_refl _) _, World.ownsMap_made _ _ _ _, fun key => .inl ⟨rfl, fun j hj => by omega⟩⟩
  case round =>
    obtain ⟨k, D, hk, rfl, hbel, hown, hfound⟩ := hrel
    by_cases hlt : k < n
    · obtain ⟨c0, c1, c2⟩ := hI.cells k hlt
      have d0 : wr.cell? ⟨b, off + k * 3, none⟩ = some (.string (code k)) := (hbel.cell (by exact hbw)).trans c0
      have d1 : wr.cell? ⟨b, off + k * 3 + 1, none⟩ = some (.int .i64 (nav k)) := (hbel.cell (by exact hbw)).trans c1
      have d2 : wr.cell? ⟨b, off + k * 3 + 2, none⟩ = some (.slice (ca k) (cl k) (cc k)) := (hbel.cell (by exact hbw)).trans c2
      have hfew := hI.few k hlt
      have hw0 : w.heap.size < wr.heap.size := hown.lt
      have hstr := hI.strs k hlt
      have hshort := hI.short k hlt
      have HF : Hid (∀ key, Found wr w.heap.size k code nav cl cs D key) := hfound
      obtain ⟨cak, hcak⟩ : ∃ x, x = ca k := ⟨_, rfl⟩
      rw [← hcak] at d2 hstr
      clear c0 c1 c2 hfound hcak hI
      obtain ⟨wo, rfl⟩ : ∃ wo : World, wo = wr := ⟨_, rfl⟩
      have hstr' : (cl k ≤ 0 ∧ ∀ j, j < cl k → w.cell? ⟨0, j, none⟩ = some (.string (cs k j))) ∨ ∃ bc oc, cak = some ⟨bc, oc, none⟩ ∧ bc < w.heap.size ∧ ∀ j, j < cl k → w.cell? ⟨bc, oc + j, none⟩ = some (.string (cs k j)) := by
        rcases hstr with h | h
        · exact .inl ⟨by omega, fun j hj => by omega⟩
        · exact .inr h
      clear hstr
      have hb1 : Below w.heap.size w (wo.alloc (.cells #[.string (code k), .int .i64 (nav k), .slice cak (cl k) (cc k)] 26)) := hbel.alloc hbel.size _
      have ho1 := hown.alloc (.cells #[.string (code k), .int .i64 (nav k), .slice cak (cl k) (cc k)] 26)
      have f0 : (wo.alloc (.cells #[.string (code k), .int .i64 (nav k), .slice cak (cl k) (cc k)] 26)).cell? ⟨wo.heap.size, 0, none⟩ = some (.string (code k)) := by simp
      have f1 : (wo.alloc (.cells #[.string (code k), .int .i64 (nav k), .slice cak (cl k) (cc k)] 26)).cell? ⟨wo.heap.size, 1, none⟩ = some (.int .i64 (nav k)) := by simp
      have f2 : (wo.alloc (.cells #[.string (code k), .int .i64 (nav k), .slice cak (cl k) (cc k)] 26)).cell? ⟨wo.heap.size, 2, none⟩ = some (.slice cak (cl k) (cc k)) := by simp
      rcases hstr' with ⟨hle, hcs⟩ | ⟨bc, oc, rfl, hbc, hcs⟩
      · go_wp2_with (at_make; refine wpList_make_own _ rfl _ _ 36 rfl w.heap.size 41 i0 (.agg #[.string ⟨#[]⟩, .int .i64 0, .pointer none, .int .i64 0]) 4 Ybaf.underlying36 hi hz0 hz1 _ _ _ (cl k) rfl rfl rfl (by rw [hz2]; omega) (by unfold maxLen; omega) (by simp; omega) ?_; intro w1 hown1 hgrow1; have f2' := (World.cell?_of_block (hgrow1.block wo.heap.size (by simp) (by simp))).trans f2)
        clear f2'
        have hs1 : (wo.alloc (.cells #[.string (code k), .int .i64 (nav k), .slice cak (cl k) (cc k)] 26)).heap.size = wo.heap.size + 1 := by simp
        rw [hs1] at hown1
        have hbm := (Below.refl (wo.heap.size + 1) (wo.alloc (.cells #[.string (code k), .int .i64 (nav k), .slice cak (cl k) (cc k)] 26))).grown hgrow1 (by simp) (fun j hj => by cases hj)
        go_loopw [6, 25] (fun v i wi => ∃ m : Nat, m ≤ cl k ∧ i = .int .i64 m ∧ v = .slice (some ⟨wo.heap.size + 1, 0, none⟩) m (cl k) ∧ wi.ownsRow w.heap.size 41 4 (.slice (some ⟨wo.heap.size + 1, 0, none⟩) m (cl k)) m (classCells (cs k) m) ∧ Below (wo.heap.size + 1) (wo.alloc (.cells #[.string (code k), .int .i64 (nav k), .slice cak (cl k) (cc k)] 26)) wi) (fun _ i _ => cl k - (intOf i).toNat)
        case atStart => exact ⟨0, Nat.zero_le _, rfl, rfl, hown1, hbm⟩
        case round =>
          clear hown1 hgrow1 hbm
          obtain ⟨m, hm, rfl, rfl, hrow, hbi⟩ := hrel
          by_cases hml : m < cl k
          · exfalso; omega
          · have hmk : m = cl k := by omega
            have hC := classes_of_row hrow
            have g0 : wr.cell? ⟨wo.heap.size, 0, none⟩ = some (.string (code k)) := (hbi.cell (by show wo.heap.size < _; omega)).trans f0
            have g1 : wr.cell? ⟨wo.heap.size, 1, none⟩ = some (.int .i64 (nav k)) := (hbi.cell (by show wo.heap.size < _; omega)).trans f1
            have hoi : wr.ownsMap Ybaf.prog 9 heldV w.heap.size k D := ownsMap_block ho1 (hbi.block w.heap.size (by omega))
            have hbz := hbi.size
            rw [hs1] at hbz
            have hgl := (hrow.lt (wo.heap.size + 1) rfl).2
            have hMK : Hid (m = cl k) := hmk
            clear hmk hrow
            go_wp2_with (at_mapUpdate; refine wpList_mapUpdate_own _ rfl _ _ _ 27 rfl 9 45 law9 Ybaf.underlying27 heldV w.heap.size k D rfl hoi (by unfold maxLen; omega) (.string (code k)) (fundV (code k) (nav k) (.slice (some ⟨wo.heap.size + 1, 0, none⟩) m (cl k))) (.string (code k).data.toList) rfl rfl (WideMaps.keyOf_string_mk Ybaf.underlying9 hshort) (.held (fundV (code k) (nav k) (.slice (some ⟨wo.heap.size + 1, 0, none⟩) m (cl k)))) [] rfl ?_; intro w2 hown2 hgrow2)
            go_roundw
            case rel =>
              have hmk := hMK.out
              subst hmk
              refine ⟨k + 1, _, by omega, by go_num, (hb1.trans (hbi.mono (by omega))).grown hgrow2 (by omega) (fun j hj => by cases hj; exact Nat.le_refl _), hown2, ?_⟩
              refine found_step hown.isMap HF.out (by have := hgrow2.size; omega) (fun i h1 h2 => ?_) (by omega) (by have := hgrow2.size; omega) (hC.block (hgrow2.block _ hgl (by simp; omega)))
              rw [hgrow2.block i (by omega) (by simp; omega), hbi.block i (by omega)]
              exact Below.heap_alloc _ _ _ h2
            case measure => simp [intOf]; omega
      · go_wp2_with (at_make; refine wpList_make_own _ rfl _ _ 36 rfl w.heap.size 41 i0 (.agg #[.string ⟨#[]⟩, .int .i64 0, .pointer none, .int .i64 0]) 4 Ybaf.underlying36 hi hz0 hz1 _ _ _ (cl k) rfl rfl rfl (by rw [hz2]; omega) (by unfold maxLen; omega) (by simp; omega) ?_; intro w1 hown1 hgrow1; have f2' := (World.cell?_of_block (hgrow1.block wo.heap.size (by simp) (by simp))).trans f2)
        clear f2'
        have hs1 : (wo.alloc (.cells #[.string (code k), .int .i64 (nav k), .slice (some ⟨bc, oc, none⟩) (cl k) (cc k)] 26)).heap.size = wo.heap.size + 1 := by simp
        rw [hs1] at hown1
        have hbm := (Below.refl (wo.heap.size + 1) (wo.alloc (.cells #[.string (code k), .int .i64 (nav k), .slice (some ⟨bc, oc, none⟩) (cl k) (cc k)] 26))).grown hgrow1 (by simp) (fun j hj => by cases hj)
        go_loopw [6, 25] (fun v i wi => ∃ m : Nat, m ≤ cl k ∧ i = .int .i64 m ∧ v = .slice (some ⟨wo.heap.size + 1, 0, none⟩) m (cl k) ∧ wi.ownsRow w.heap.size 41 4 (.slice (some ⟨wo.heap.size + 1, 0, none⟩) m (cl k)) m (classCells (cs k) m) ∧ Below (wo.heap.size + 1) (wo.alloc (.cells #[.string (code k), .int .i64 (nav k), .slice (some ⟨bc, oc, none⟩) (cl k) (cc k)] 26)) wi) (fun _ i _ => cl k - (intOf i).toNat)
        case atStart => exact ⟨0, Nat.zero_le _, rfl, rfl, hown1, hbm⟩
        case round =>
          clear hown1 hgrow1 hbm
          obtain ⟨m, hm, rfl, rfl, hrow, hbi⟩ := hrel
          by_cases hml : m < cl k
          · have e0 : wr.cell? ⟨bc, oc + m, none⟩ = some (.string (cs k m)) := (hbi.cell (by show bc < _; omega)).trans ((hb1.cell (by exact hbc)).trans (hcs m hml))
            have hrs := hrow.alloc (.cells #[.string (cs k m), .int .i64 0, .pointer none, .int .i64 0] 41)
            have hbz := hbi.size
            rw [hs1] at hbz
            go_wp2_with (at_builtin; refine wpList_append_fits _ rfl _ _ 36 rfl w.heap.size 41 i0 4 Ybaf.underlying36 hi hz1 (wo.heap.size + 1) m (cl k) (classCells (cs k) m) rfl hrs ⟨wr.heap.size, 0, none⟩ 1 1 [.string (cs k m), .int .i64 0, .pointer none, .int .i64 0] rfl rfl (news4 _ _) (one4 _) (by omega) ?_; intro w2 hrow2 hgrow2)
            go_roundw
            case rel => exact ⟨m + 1, by omega, by go_num, rfl, hrow2, (hbi.alloc (by omega) _).grown hgrow2 (by simp; omega) (fun j hj => by cases hj; exact Nat.le_refl _)⟩
            case measure => simp [intOf]; omega
          · have hmk : m = cl k := by omega
            have hC := classes_of_row hrow
            have g0 : wr.cell? ⟨wo.heap.size, 0, none⟩ = some (.string (code k)) := (hbi.cell (by show wo.heap.size < _; omega)).trans f0
            have g1 : wr.cell? ⟨wo.heap.size, 1, none⟩ = some (.int .i64 (nav k)) := (hbi.cell (by show wo.heap.size < _; omega)).trans f1
            have hoi : wr.ownsMap Ybaf.prog 9 heldV w.heap.size k D := ownsMap_block ho1 (hbi.block w.heap.size (by omega))
            have hbz := hbi.size
            rw [hs1] at hbz
            have hgl := (hrow.lt (wo.heap.size + 1) rfl).2
            have hMK : Hid (m = cl k) := hmk
            clear hmk hrow
            go_wp2_with (at_mapUpdate; refine wpList_mapUpdate_own _ rfl _ _ _ 27 rfl 9 45 law9 Ybaf.underlying27 heldV w.heap.size k D rfl hoi (by unfold maxLen; omega) (.string (code k)) (fundV (code k) (nav k) (.slice (some ⟨wo.heap.size + 1, 0, none⟩) m (cl k))) (.string (code k).data.toList) rfl rfl (WideMaps.keyOf_string_mk Ybaf.underlying9 hshort) (.held (fundV (code k) (nav k) (.slice (some ⟨wo.heap.size + 1, 0, none⟩) m (cl k)))) [] rfl ?_; intro w2 hown2 hgrow2)
            go_roundw
            case rel =>
              have hmk := hMK.out
              subst hmk
              refine ⟨k + 1, _, by omega, by go_num, (hb1.trans (hbi.mono (by omega))).grown hgrow2 (by omega) (fun j hj => by cases hj; exact Nat.le_refl _), hown2, ?_⟩
              refine found_step hown.isMap HF.out (by have := hgrow2.size; omega) (fun i h1 h2 => ?_) (by omega) (by have := hgrow2.size; omega) (hC.block (hgrow2.block _ hgl (by simp; omega)))
              rw [hgrow2.block i (by omega) (by simp; omega), hbi.block i (by omega)]
              exact Below.heap_alloc _ _ _ h2
            case measure => simp [intOf]; omega
    · go_wp2
      go_ret
      exact ⟨D, rfl, hown.mono hk, fun key => by have : k = n := by omega
                                                 subst this; exact hfound key, hbel⟩
end Go.Proofs.YbulkhboFmt
