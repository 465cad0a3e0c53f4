import Derived.Test.YbulkhboFmtNav
import Derived.Deep.DeepCutAuto
import Derived.Deep.LoopGhost
import Derived.RegionTactic
import Derived.ChangeAlike
import Derived.Deep.QuietTactic
import Derived.BigQuiet
namespace Go.Proofs.YbulkhboFmt
open Go.RowKit Go.Extern.Stop Go.Stop Go.Extern Go.Maps
set_option linter.unusedVariables false

/-- What the law is told of the funds that came in. -/
structure Given (w : World) (b off n : Nat) (code : Nat → ByteArray) (nav : Nat → Int) (ca : Nat → Option Addr) (cl cc : Nat → Nat) (cs : Nat → Nat → ByteArray) : Prop where
  lt : b < w.heap.size
  cells : ∀ i, i < n → w.cell? ⟨b, off + i * 3, none⟩ = some (.string (code i)) ∧ w.cell? ⟨b, off + i * 3 + 1, none⟩ = some (.int .i64 (nav i)) ∧ w.cell? ⟨b, off + i * 3 + 2, none⟩ = some (.slice (ca i) (cl i) (cc i))
  strs : ∀ i, i < n → StrsAt w (ca i) (cl i) (cs i)
  short : ∀ i, i < n → (code i).size ≤ maxLen

theorem Found.mono {w w' : World} {B k : Nat} {code : Nat → ByteArray} {nav : Nat → Int} {cl : Nat → Nat} {cs : Nat → Nat → ByteArray} {D : DataW Value} {key : ByteArray} (h : Found w B k code nav cl cs D key)
    (hsz : w.heap.size ≤ w'.heap.size) (hold : ∀ i, i < w.heap.size → w'.heap[i]? = w.heap[i]?) : Found w' B k code nav cl cs D key := by
  rcases h with h | ⟨j, g, h1, h2, h3, h4, h5, h6, h7, h8⟩
  · exact .inl h
  · exact .inr ⟨j, g, h1, h2, h3, h4, by omega, h6.block (hold g h5), h7, h8⟩

theorem pick (x : Int) (n : Nat) (h0 : 0 ≤ x) (h1 : x ≤ 18446744073709551615) (hn0 : 0 < n) (hn : n ≤ 256) : ∃ q : Nat, wrap64 (x / 3 % (n : Int)) = (q : Int) ∧ q < n := by
  have a := Int.emod_nonneg (x / 3) (b := (n : Int)) (by omega)
  have b := Int.emod_lt_of_pos (x / 3) (b := (n : Int)) (by omega)
  refine ⟨(x / 3 % (n : Int)).toNat, ?_, by omega⟩
  generalize x / 3 % (n : Int) = z at *
  unfold wrap64
  omega

theorem eqS_iff (c k : ByteArray) : eqS c k = true ↔ c = k := by
  unfold eqS
  rw [ByteArray.toList_eq, ByteArray.toList_eq]
  constructor
  · intro h
    have h2 : c.data = k.data := Array.toList_inj.1 (by simpa using h)
    cases c
    cases k
    simp_all
  · rintro rfl
    simp

/-- z is the last place below m at which the code stands; -1 where it stands nowhere. -/
def LastIs (code : Nat → ByteArray) (key : ByteArray) (m : Nat) (z : Int) : Prop :=
  (z = -1 ∧ ∀ j, j < m → eqS (code j) key = false) ∨ (∃ j : Nat, j < m ∧ z = j ∧ eqS (code j) key = true ∧ ∀ j', j < j' → j' < m → eqS (code j') key = false)

theorem LastIs.miss {code : Nat → ByteArray} {key : ByteArray} {m : Nat} {z : Int} (h : LastIs code key m z) (he : ((code m).toList == key.toList) = false) : LastIs code key (m + 1) z := by
  rcases h with ⟨h1, h2⟩ | ⟨j, h1, h2, h3, h4⟩
  · refine .inl ⟨h1, fun j hj => ?_⟩
    rcases Nat.lt_or_ge j m with h | h
    · exact h2 j h
    · obtain rfl : j = m := by omega
      exact he
  · refine .inr ⟨j, by omega, h2, h3, fun j' a b => ?_⟩
    rcases Nat.lt_or_ge j' m with h | h
    · exact h4 j' a h
    · obtain rfl : j' = m := by omega
      exact he

theorem LastIs.hit {code : Nat → ByteArray} {key : ByteArray} {m : Nat} (he : ((code m).toList == key.toList) = true) : LastIs code key (m + 1) m :=
  .inr ⟨m, by omega, rfl, he, fun j' a b => by omega⟩

theorem below_drewN {B : Nat} {a w : World} (h : Below B a w) : ∀ n, Below B a (w.drewN n)
  | 0 => h
  | n + 1 => (below_drewN h n).drew

theorem has_miss {cs : Nat → ByteArray} {k : ByteArray} {t : Nat} {bb : Bool} (h : bb = true ↔ ∃ i, i < t ∧ eqS (cs i) k = true) (he : ((cs t).toList == k.toList) = false) : bb = true ↔ ∃ i, i < t + 1 ∧ eqS (cs i) k = true := by
  rw [h]
  constructor
  · rintro ⟨i, hi, h2⟩
    exact ⟨i, by omega, h2⟩
  · rintro ⟨i, hi, h2⟩
    rcases Nat.lt_or_ge i t with h3 | h3
    · exact ⟨i, h3, h2⟩
    · obtain rfl : i = t := by omega
      unfold eqS at h2
      rw [he] at h2
      cases h2

theorem has_hit {cs : Nat → ByteArray} {k : ByteArray} {t : Nat} (he : ((cs t).toList == k.toList) = true) : true = true ↔ ∃ i, i < t + 1 ∧ eqS (cs i) k = true :=
  ⟨fun _ => ⟨t, by omega, he⟩, fun _ => rfl⟩

set_option maxRecDepth 100000 in
set_option maxHeartbeats 1000000 in
theorem law_some (F : Interp) (b off n cap : Nat) (code : Nat → ByteArray) (nav : Nat → Int) (ca : Nat → Option Addr) (cl cc : Nat → Nat) (cs : Nat → Nat → ByteArray) (kf kc : ByteArray) (x y : Int) (w : World)
    (hF : F.answers w.tape) (hn0 : 0 < n) (hn : n ≤ 256) (hI : Given w b off n code nav ca cl cc cs) (hkf : kf.size ≤ maxLen) (hx0 : 0 ≤ x) (hx1 : x ≤ 18446744073709551615) (hy0 : 0 ≤ y) (hy1 : y ≤ 18446744073709551615) :
    Calls Ybaf.prog 3 #[.slice (some ⟨b, off, none⟩) n cap, .string kf, .string kc, .int .u64 x, .int .u64 y] w fun e w' => e = .returned (.bool true) ∧ Below w.heap.size w w' := by
  have hbw := hI.lt
  go_enter Ybaf.func3, Ybaf.ntmps3
  go_wp2
  go_loop [27] (fun i => ∃ k : Nat, k ≤ n ∧ i = .int .i64 k ∧ ∀ j, j < k → cl j ≤ 256) (fun i => n - (intOf i).toNat)
  case atStart => exact ⟨0, Nat.zero_le _, rfl, fun j hj => by omega⟩
  case round =>
    obtain ⟨k, hk, rfl, hfew⟩ := hrel
    by_cases hlt : k < n
    · obtain ⟨c0, c1, c2⟩ := hI.cells k hlt
      by_cases h256 : cl k ≤ 256
      · go_wp2
        go_round
        case rel =>
          refine ⟨k + 1, by omega, by go_num, fun j hj => ?_⟩
          rcases Nat.lt_or_ge j k with h | h
          · exact hfew j h
          · obtain rfl : j = k := by omega
            exact h256
        case measure => simp [intOf]; omega
      · have h256' : 256 < cl k := by omega
        go_wp2
        go_ret
        exact ⟨rfl, Below.refl _ _⟩
    · obtain rfl : k = n := by omega
      have hFu : Funds w b off k code nav ca cl cc cs := ⟨hbw, hI.cells, hI.strs, hfew, hI.short⟩
      have hk0 : (0 : Int) < (k : Int) := by omega
      go_upto_if 50 with (go_at_call 4; refine (make_any b off k cap code nav ca cl cc cs _ hn hFu).mono ?_; rintro e w1 ⟨D, rfl, hown, hfound, hb1⟩)
      have hsz : w.heap.size < w1.heap.size := hown.lt
      have hbk : Below w.heap.size w (w1.alloc (.cells #[.string kf, .string kc] 30)) := hb1.alloc (Nat.le_of_lt hsz) _
      have hok := hown.alloc (.cells #[.string kf, .string kc] 30)
      have hfk : ∀ key, Found (w1.alloc (.cells #[.string kf, .string kc] 30)) w.heap.size k code nav cl cs D key := fun key => (hfound key).mono (by simp) (fun i hi => Below.heap_alloc _ _ _ hi)
      have HO : Hid (w1.ownsMap Ybaf.prog 9 heldV w.heap.size k D) := hown
      have HF0 : Hid (∀ key, Found w1 w.heap.size k code nav cl cs D key) := hfound
      clear hown hfound hok hfk
      go_cut [14] (fun _ wc => ∃ qf qc : ByteArray, qf.size ≤ maxLen ∧ wc.cell? ⟨w1.heap.size, 0, none⟩ = some (.string qf) ∧ wc.cell? ⟨w1.heap.size, 1, none⟩ = some (.string qc) ∧ Below w1.heap.size w1 wc ∧ w1.heap.size < wc.heap.size)
      case first =>
        by_cases hx3 : (x % 3 != 0) = true
        · obtain ⟨q, hq, hqk⟩ := pick x k hx0 hx1 hn0 hn
          obtain ⟨c0, c1, c2⟩ := hI.cells q hqk
          have hstr := hI.strs q hqk
          have hcode := hI.short q hqk
          have hf := hfew q hqk
          obtain ⟨cak, hcak⟩ : ∃ z, z = ca q := ⟨_, rfl⟩
          rw [← hcak] at c2 hstr
          have hbw' : b < w1.heap.size := by omega
          have d0 : (w1.alloc (.cells #[.string kf, .string kc] 30)).cell? ⟨b, off + q * 3, none⟩ = some (.string (code q)) := (hbk.cell (by exact hbw)).trans c0
          have d1 : (w1.alloc (.cells #[.string kf, .string kc] 30)).cell? ⟨b, off + q * 3 + 1, none⟩ = some (.int .i64 (nav q)) := (hbk.cell (by exact hbw)).trans c1
          have d2 : (w1.alloc (.cells #[.string kf, .string kc] 30)).cell? ⟨b, off + q * 3 + 2, none⟩ = some (.slice cak (cl q) (cc q)) := (hbk.cell (by exact hbw)).trans c2
          clear hcak c0 c1 c2 hI hFu hfew
          by_cases hy3 : 0 < cl q ∧ (y % 3 != 0) = true
          · obtain ⟨hcq, hy3⟩ := hy3
            obtain ⟨r, hr, hrk⟩ := pick y (cl q) hy0 hy1 hcq hf
            obtain ⟨bc, oc, rfl, hbc, hcs⟩ : ∃ bc oc, cak = some ⟨bc, oc, none⟩ ∧ bc < w.heap.size ∧ ∀ j, j < cl q → w.cell? ⟨bc, oc + j, none⟩ = some (.string (cs q j)) := by
              rcases hstr with h | h
              · omega
              · exact h
            have hcq' : (0 : Int) < (cl q : Int) := by omega
            have hs0 := hcs r hrk
            have hbc1 : bc < w1.heap.size := by omega
            have hs1 : ∀ W : World, Below w1.heap.size w1 W → W.cell? ⟨bc, oc + r, none⟩ = some (.string (cs q r)) := fun W hW => (hW.cell (by exact hbc1)).trans ((hb1.cell (by exact hbc)).trans hs0)
            have hs2 := hs1 _ (((Below.refl w1.heap.size w1).alloc (Nat.le_refl _) (.cells #[.string (code q), .string kc] 30)).alloc (by simp) (.cells #[.string (code q), .int .i64 (nav q), .slice (some ⟨bc, oc, none⟩) (cl q) (cc q)] 26))
            clear hs1 hs0 hcs hstr
            go_wp2_with fail
            go_region
            all_goals go_wp2_with fail
            all_goals go_meet
            all_goals exact ⟨code q, cs q r, hcode, by simp, by simp, ((((Below.refl w1.heap.size w1).alloc (Nat.le_refl _) _).alloc (by simp) _)).drew, by simp; omega⟩
          · have hgd : (cl q : Int) ≤ 0 ∨ ((0 : Int) < (cl q : Int) ∧ (y % 3 != 0) = false) := by
              by_cases h : 0 < cl q
              · right
                refine ⟨by omega, ?_⟩
                cases h2 : (y % 3 != 0) with
                | false => rfl
                | true => exact absurd ⟨h, h2⟩ hy3
              · left
                omega
            clear hy3 hstr
            rcases hgd with hg | ⟨hg1, hg2⟩
            · go_wp2_with fail
              go_meet
              exact ⟨code q, kc, hcode, by simp, by simp, ((Below.refl _ _).alloc (Nat.le_refl _) _).alloc (by simp) _, by simp; omega⟩
            · go_wp2_with fail
              go_meet
              exact ⟨code q, kc, hcode, by simp, by simp, ((Below.refl _ _).alloc (Nat.le_refl _) _).alloc (by simp) _, by simp; omega⟩
        · have hx3' : (x % 3 != 0) = false := by simpa using hx3
          clear hx3
          go_wp2_with fail
          go_meet
          exact ⟨kf, kc, hkf, by simp, by simp, (Below.refl _ _).alloc (Nat.le_refl _) _, by simp⟩
      case rest =>
        obtain ⟨qf, qc, hqf, hq0, hq1, hbc, hzc⟩ := hcut
        have hbwc : Below w.heap.size w wc := hb1.trans (hbc.mono (Nat.le_of_lt hsz))
        have hoc : wc.ownsMap Ybaf.prog 9 heldV w.heap.size k D := ownsMap_block HO.out (hbc.block w.heap.size hsz)
        have HFc : Hid (Found wc w.heap.size k code nav cl cs D qf) := (HF0.out qf).mono hbc.size (fun i hi => hbc.block i hi)
        have HI : Hid (Given w b off k code nav ca cl cc cs) := hI
        have HW : Hid (∀ j, j < k → cl j ≤ 256) := hfew
        clear HO HF0 hFu hbk hb1 hI hfew
        go_wp2
        go_loopw [15, 88] (fun l i wr => ∃ m : Nat, m ≤ k ∧ i = .int .i64 m ∧ (∃ z : Int, l = .int .i64 z ∧ LastIs code qf m z) ∧ Below wc.heap.size wc wr) (fun _ i _ => k - (intOf i).toNat)
        case atStart => exact ⟨0, Nat.zero_le _, rfl, ⟨-1, rfl, .inl ⟨rfl, fun j hj => by omega⟩⟩, Below.refl _ _⟩
        case round =>
          obtain ⟨m, hm, rfl, ⟨z, rfl, hlast⟩, hbr⟩ := hrel
          have hbwr : Below w.heap.size w wr := hbwc.trans (hbr.mono hbwc.size)
          by_cases hmk : m < k
          · have d0 : wr.cell? ⟨b, off + m * 3, none⟩ = some (.string (code m)) := (hbwr.cell (by exact hbw)).trans (HI.out.cells m hmk).1
            have d1 : wr.cell? ⟨w1.heap.size, 0, none⟩ = some (.string qf) := (hbr.cell (by exact hzc)).trans hq0
            have hmi : (m : Int) < (k : Int) := by omega
            have HL : Hid (LastIs code qf m z) := hlast
            clear hlast
            cases he : ((code m).toList == qf.toList)
            · go_wp2_with fail
              go_quiet (fail)
              go_wp2
              go_roundw
              case rel => exact ⟨m + 1, by omega, by go_num, ⟨z, rfl, HL.out.miss he⟩, below_drewN hbr _⟩
              case measure => simp [intOf]; omega
            · go_wp2_with fail
              go_quiet (fail)
              go_wp2
              go_roundw
              case rel => exact ⟨m + 1, by omega, by go_num, ⟨m, rfl, LastIs.hit he⟩, below_drewN hbr _⟩
              case measure => simp [intOf]; omega
          · obtain rfl : m = k := by omega
            have hor : wr.ownsMap Ybaf.prog 9 heldV w.heap.size m D := ownsMap_block hoc (hbr.block w.heap.size (by omega))
            have hfr : Found wr w.heap.size m code nav cl cs D qf := HFc.out.mono hbr.size (fun i hi => hbr.block i hi)
            have hFr : F.answers wr.tape := by rw [hbwr.tape]; exact hF
            have e0 : wr.cell? ⟨w1.heap.size, 0, none⟩ = some (.string qf) := (hbr.cell (by exact hzc)).trans hq0
            have e1 : wr.cell? ⟨w1.heap.size, 1, none⟩ = some (.string qc) := (hbr.cell (by exact hzc)).trans hq1
            have hzr : w1.heap.size < wr.heap.size := Nat.lt_of_lt_of_le hzc hbr.size
            clear hq0 hq1 HFc hoc
            rcases hfr with ⟨hh, hnone⟩ | ⟨j, g, hj, hcj, hlastj, hBg, hgr, hCl, hh, hat⟩
            · obtain rfl : z = -1 := by
                rcases hlast with ⟨h, _⟩ | ⟨j, h1, _, h3, _⟩
                · exact h
                · exact absurd ((eqS_iff _ _).1 h3) (hnone j h1)
              clear hlast hnone
              go_wp2_with fail
              refine (nav_missing F w.heap.size m D qf qc _ hFr hor hqf hh).mono ?_
              rintro e w2 ⟨p, rfl, hb2⟩
              go_wp2
              go_ret
              exact ⟨rfl, hbwr.trans (hb2.mono hbwr.size)⟩
            · obtain rfl : z = (j : Int) := by
                rcases hlast with ⟨h, h2⟩ | ⟨j2, h1, h2, h3, h4⟩
                · have h5 := h2 j hj
                  rw [(eqS_iff _ _).2 hcj] at h5
                  cases h5
                · have h6 := (eqS_iff _ _).1 h3
                  rcases Nat.lt_trichotomy j j2 with h | h | h
                  · exact absurd h6 (hlastj j2 h h1)
                  · subst h; exact h2
                  · have h5 := h4 j h hj
                    rw [(eqS_iff _ _).2 hcj] at h5
                    cases h5
              clear hlast hlastj hcj
              have hw := HW.out j hj
              obtain ⟨c0, c1, c2⟩ := HI.out.cells j hj
              have hstr := HI.out.strs j hj
              obtain ⟨cak, hcak⟩ : ∃ z, z = ca j := ⟨_, rfl⟩
              rw [← hcak] at c2 hstr
              clear hcak
              have hji : (j : Int) < (m : Int) := by omega
              have HA : Hid (∀ z, D.atKey (.string qf.data.toList) z = .held (fundV (code j) (nav j) (.slice (some ⟨g, 0, none⟩) (cl j) (cl j)))) := hat
              clear hat
              by_cases hex : ∃ i, i < cl j ∧ eqS (cs j i) qc = true
              · go_wp2_with fail
                refine (nav_yes w.heap.size m D qf qc (code j) (nav j) g (cl j) (cl j) (cs j) _ hor hqf hh HA.out hw hgr hCl hex).mono ?_
                rintro e w2 ⟨rfl, hb2⟩
                have hbw2 : Below w.heap.size w w2 := hbwr.trans (hb2.mono hbwr.size)
                have f1 : w2.cell? ⟨b, off + j * 3 + 1, none⟩ = some (.int .i64 (nav j)) := (hbw2.cell (by exact hbw)).trans c1
                have f2 : w2.cell? ⟨b, off + j * 3 + 2, none⟩ = some (.slice cak (cl j) (cc j)) := (hbw2.cell (by exact hbw)).trans c2
                have g1 : w2.cell? ⟨w1.heap.size, 1, none⟩ = some (.string qc) := (hb2.cell (by exact hzr)).trans e1
                obtain ⟨bc, oc, rfl, hbcc, hcs⟩ : ∃ bc oc, cak = some ⟨bc, oc, none⟩ ∧ bc < w.heap.size ∧ ∀ i, i < cl j → w.cell? ⟨bc, oc + i, none⟩ = some (.string (cs j i)) := by
                  rcases hstr with h | h
                  · obtain ⟨i, hi, _⟩ := hex
                    omega
                  · exact h
                have HX : Hid (∃ i, i < cl j ∧ eqS (cs j i) qc = true) := hex
                clear hex HA c0 c1 c2 hCl hor hstr
                go_wp2
                go_loop [19, 121] (fun h i => ∃ t : Nat, t ≤ cl j ∧ i = .int .i64 t ∧ ∃ bb : Bool, h = .bool bb ∧ (bb = true ↔ ∃ i, i < t ∧ eqS (cs j i) qc = true)) (fun _ i => cl j - (intOf i).toNat)
                case atStart => exact ⟨0, Nat.zero_le _, rfl, false, rfl, by simp⟩
                case round =>
                  obtain ⟨t, ht, rfl, bb, rfl, hbb⟩ := hrel
                  have HB : Hid (bb = true ↔ ∃ i, i < t ∧ eqS (cs j i) qc = true) := hbb
                  clear hbb
                  by_cases htl : t < cl j
                  · have h0 : w2.cell? ⟨bc, oc + t, none⟩ = some (.string (cs j t)) := (hbw2.cell (by exact hbcc)).trans (hcs t htl)
                    cases he : ((cs j t).toList == qc.toList)
                    · go_wp2
                      go_round
                      case rel => exact ⟨t + 1, by omega, by go_num, bb, rfl, has_miss HB.out he⟩
                      case measure => simp [intOf]; omega
                    · go_wp2
                      go_round
                      case rel => exact ⟨t + 1, by omega, by go_num, true, rfl, has_hit he⟩
                      case measure => simp [intOf]; omega
                  · obtain rfl : t = cl j := by omega
                    obtain rfl : bb = true := HB.out.2 HX.out
                    go_wp2
                    go_ret
                    exact ⟨by simp, hbw2⟩
              · have hno : ∀ i, i < cl j → eqS (cs j i) qc = false := by
                  intro i hi
                  cases h : eqS (cs j i) qc with
                  | false => rfl
                  | true => exact absurd ⟨i, hi, h⟩ hex
                have HX : Hid (∀ i, i < cl j → eqS (cs j i) qc = false) := hno
                clear hno hex
                go_wp2_with fail
                refine (nav_no F w.heap.size m D qf qc (code j) (nav j) g (cl j) (cl j) (cs j) _ hFr hor hqf hh HA.out hw hgr hCl HX.out).mono ?_
                rintro e w2 ⟨p, rfl, hb2⟩
                have hbw2 : Below w.heap.size w w2 := hbwr.trans (hb2.mono hbwr.size)
                have f2 : w2.cell? ⟨b, off + j * 3 + 2, none⟩ = some (.slice cak (cl j) (cc j)) := (hbw2.cell (by exact hbw)).trans c2
                have g1 : w2.cell? ⟨w1.heap.size, 1, none⟩ = some (.string qc) := (hb2.cell (by exact hzr)).trans e1
                clear HA c0 c1 c2 hCl hor
                have hstr' : ((cl j : Int) ≤ 0) ∨ ∃ bc oc, cak = some ⟨bc, oc, none⟩ ∧ bc < w.heap.size ∧ ∀ i, i < cl j → w.cell? ⟨bc, oc + i, none⟩ = some (.string (cs j i)) := by
                  rcases hstr with h | h
                  · left; omega
                  · exact .inr h
                clear hstr
                rcases hstr' with h0 | ⟨bc, oc, rfl, hbcc, hcs⟩
                · go_wp2
                  go_loop [19, 121] (fun h i => h = .bool false ∧ i = .int .i64 0) (fun _ i => 0)
                  case atStart => exact ⟨rfl, rfl⟩
                  case round =>
                    obtain ⟨rfl, rfl⟩ := hrel
                    go_wp2
                    go_ret
                    exact ⟨rfl, hbw2⟩
                · go_wp2
                  go_loop [19, 121] (fun h i => ∃ t : Nat, t ≤ cl j ∧ i = .int .i64 t ∧ h = .bool false) (fun _ i => cl j - (intOf i).toNat)
                  case atStart => exact ⟨0, Nat.zero_le _, rfl, rfl⟩
                  case round =>
                    obtain ⟨t, ht, rfl, rfl⟩ := hrel
                    by_cases htl : t < cl j
                    · have h0 : w2.cell? ⟨bc, oc + t, none⟩ = some (.string (cs j t)) := (hbw2.cell (by exact hbcc)).trans (hcs t htl)
                      have he : ((cs j t).toList == qc.toList) = false := HX.out t htl
                      go_wp2
                      go_round
                      case rel => exact ⟨t + 1, by omega, by go_num, rfl⟩
                      case measure => simp [intOf]; omega
                    · go_wp2
                      go_ret
                      exact ⟨rfl, hbw2⟩
end Go.Proofs.YbulkhboFmt
