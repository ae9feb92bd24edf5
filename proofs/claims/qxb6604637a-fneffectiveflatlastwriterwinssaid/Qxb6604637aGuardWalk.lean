/-
  THE WALKS of the guards zzBytesOf (7) and zzBytes_FnEffectiveFlatLastWriterWins (6): over slices of slices of strings.
-/
import Derived.Test.Qxb6604637aRows
import Derived.WalkKit
import Derived.WalkSpells
import Derived.WalkLawsBesides
import Derived.Deep.DeepCutAuto
import Derived.Deep.CutBlock
namespace Go.Proofs.Qxb6604637a
open Go.RowKit

/-- A row of strings at r. -/
def RowAt (w : World) (r : Option Addr) (ss : List ByteArray) : Prop := ∀ j, j < ss.length → ∃ y, r = some y ∧ w.cell? (y.add j) = some (.string (ss.getD j ByteArray.empty))
/-- A slice of such rows at a. -/
def Grid (w : World) (a : Option Addr) (L : List (List ByteArray)) : Prop := ∀ i, i < L.length → ∃ x r c, a = some x ∧ w.cell? (x.add i) = some (.slice r (L.getD i []).length c) ∧ RowAt w r (L.getD i [])
/-- Nothing in it is long. -/
def Sm (L : List (List ByteArray)) : Prop := L.length ≤ 1048576 ∧ ∀ i, i < L.length → (L.getD i []).length ≤ 1048576 ∧ ∀ j, j < (L.getD i []).length → ((L.getD i []).getD j ByteArray.empty).size ≤ 1048576
/-- How many strings lie in the first k rows. -/
def cnt (L : List (List ByteArray)) (k : Nat) : Nat := ((L.take k).map List.length).sum
theorem cnt_succ (L : List (List ByteArray)) (k : Nat) (h : k < L.length) : cnt L (k + 1) = cnt L k + (L.getD k []).length := by
  unfold cnt
  rw [List.take_succ_eq_append_getElem h, List.map_append, List.sum_append, List.getD_eq_getElem?_getD, List.getElem?_eq_getElem h]; simp

set_option maxRecDepth 100000 in
set_option maxHeartbeats 800000 in
theorem bytesOf_any (a : Option Addr) (cap : Nat) (L : List (List ByteArray)) (w : World) (hg : Grid w a L) (hs : Sm L) :
    Calls Try.prog 7 #[.slice a L.length cap] w fun e w' => ∃ v : Int, e = .returned (.int .i64 v) ∧ (0 ≤ v ∧ v ≤ 16777216 ∧ (v ≤ 1048576 → 8 * (L.length + cnt L L.length) ≤ v)) ∧ w' = w := by
  have HG : Aside (Grid w a L) := hg
  have HS : Aside (Sm L) := hs
  have hn := hs.1
  clear hg hs
  go_enter Try.func7, Try.ntmps7
  go_wp2
  go_loopg [3, 4] L.length (fun g z i wr => ∃ k zn : Nat, k ≤ L.length ∧ zn ≤ 8388608 ∧ z = .int .i64 zn ∧ i = .int .i64 k ∧ Aside (8 * (L.length + cnt L k) ≤ zn ∧ (0 < k → zn ≤ 1048576) ∧ L.length - k ≤ g) ∧ w = wr)
  case atStart => exact ⟨0, 8 * L.length, Nat.zero_le _, by omega, by go_num, rfl, ⟨by simp [cnt], fun h => absurd h (Nat.not_lt_zero _), Nat.le_refl _⟩, rfl⟩
  case round =>
    obtain ⟨k, zn, hk, hz, rfl, rfl, hE, rfl⟩ := hrel
    by_cases hlt : k < L.length
    · obtain ⟨x, r, c, rfl, hc, hrow⟩ := HG.out k hlt
      obtain ⟨hrl, hrs⟩ := HS.out.2 k hlt
      have HCN : Aside _ := cnt_succ L k hlt
      generalize L.getD k [] = ss at *
      have HR : Aside (RowAt w r ss) := hrow
      have HRS : Aside (∀ j, j < ss.length → (ss.getD j ByteArray.empty).size ≤ 1048576) := hrs
      clear hrow hrs
      by_cases h8 : zn + 8 * ss.length ≤ 1048576
      · go_wp2_with fail
        go_loopg [3, 5] ss.length (fun g z i wr => ∃ j zm : Nat, j ≤ ss.length ∧ zm ≤ 1048576 ∧ z = .int .i64 zm ∧ i = .int .i64 j ∧ Aside (zn + 8 * ss.length ≤ zm ∧ ss.length - j ≤ g) ∧ w = wr)
        case atStart => exact ⟨0, zn + 8 * ss.length, Nat.zero_le _, h8, by go_num, rfl, ⟨Nat.le_refl _, Nat.le_refl _⟩, rfl⟩
        case round =>
          obtain ⟨j, zm, hj, hzm, rfl, rfl, hE2, rfl⟩ := hrel
          by_cases hjl : j < ss.length
          · obtain ⟨y, rfl, hcy⟩ := HR.out j hjl
            have hsz := HRS.out j hjl
            generalize ss.getD j ByteArray.empty = s at *
            by_cases hov : zm + s.size ≤ 1048576
            · go_wp2
              go_roundg (ss.length - (j + 1))
              case measure => have := hE2.out.2; omega
              case rel => exact ⟨j + 1, zm + s.size, by omega, hov, by go_num, by go_num, ⟨by have := hE2.out.1; omega, Nat.le_refl _⟩, rfl⟩
            · go_wp2
              go_ret
              exact ⟨(zm : Int) + s.size, rfl, ⟨by omega, by omega, by omega⟩, rfl⟩
          · go_wp2
            go_roundg (L.length - (k + 1))
            case measure => have := hE.out.2.2; omega
            case rel => exact ⟨k + 1, zm, by omega, by omega, rfl, by go_num, ⟨by have a := hE.out.1; have b := hE2.out.1; rw [HCN.out]; omega, fun _ => hzm, Nat.le_refl _⟩, rfl⟩
      · go_wp2
        go_ret
        exact ⟨(zn : Int) + 8 * ss.length, rfl, ⟨by omega, by omega, by omega⟩, rfl⟩
    · obtain rfl : k = L.length := by omega
      go_wp2
      go_ret
      exact ⟨zn, rfl, ⟨by omega, by omega, fun _ => by have := hE.out.1; omega⟩, rfl⟩
/-- What can be read at all. -/
def Mx (L : List (List ByteArray)) : Prop := L.length ≤ maxLen ∧ ∀ i, i < L.length → (L.getD i []).length ≤ maxLen ∧ ∀ j, j < (L.getD i []).length → ((L.getD i []).getD j ByteArray.empty).size ≤ maxLen

set_option maxRecDepth 100000 in
set_option maxHeartbeats 1600000 in
theorem bytes_any (a b : Option Addr) (ca cb : Nat) (K V : List (List ByteArray)) (w : World) (hgK : Grid w a K) (hgV : Grid w b V) (hmK : Mx K) (hmV : Mx V) :
    Calls Try.prog 6 #[.slice a K.length ca, .slice b V.length cb] w fun e w' => ∃ r, e = .returned (.bool r) ∧ (r = true → Sm K ∧ Sm V) ∧ w' = w := by
  have HGK : Aside (Grid w a K) := hgK
  have HGV : Aside (Grid w b V) := hgV
  have HMK : Aside (Mx K) := hmK
  have HMV : Aside (Mx V) := hmV
  have hlK := hmK.1
  have hlV := hmV.1
  unfold maxLen at hlK hlV
  clear hgK hgV hmK hmV
  by_cases hbK : K.length ≤ 1048576
  · go_enter Try.func6, Try.ntmps6
    go_wp2
    go_loopg [5, 6] K.length (fun g z i wr => ∃ k zn : Nat, k ≤ K.length ∧ zn ≤ 1048576 ∧ z = .int .i64 zn ∧ i = .int .i64 k ∧ Aside ((∀ i, i < k → (K.getD i []).length ≤ 1048576 ∧ ∀ j, j < (K.getD i []).length → ((K.getD i []).getD j ByteArray.empty).size ≤ 1048576) ∧ K.length - k ≤ g) ∧ w = wr)
    case atStart => exact ⟨0, _, Nat.zero_le _, hbK, by go_num, rfl, ⟨fun i h => absurd h (Nat.not_lt_zero _), Nat.le_refl _⟩, rfl⟩
    case round =>
      obtain ⟨k, zn, hk, hz, rfl, rfl, hEK, rfl⟩ := hrel
      by_cases hlt : k < K.length
      · obtain ⟨x, r, c, rfl, hc, hrow⟩ := HGK.out k hlt
        obtain ⟨hrl, hrs⟩ := HMK.out.2 k hlt
        unfold maxLen at hrl
        obtain ⟨ss, hss⟩ : ∃ ss, ss = K.getD k [] := ⟨_, rfl⟩
        rw [← hss] at hc hrow hrl hrs
        have HSS : Aside (ss = K.getD k []) := hss
        have HR : Aside (RowAt w r ss) := hrow
        have HRS : Aside (∀ j, j < ss.length → (ss.getD j ByteArray.empty).size ≤ maxLen) := hrs
        clear hrow hrs hss
        by_cases h1 : ss.length ≤ 1048576
        · by_cases h8 : zn + ss.length ≤ 1048576
          · go_wp2_with fail
            go_loopg [5, 7] ss.length (fun g z i wr => ∃ j zm : Nat, j ≤ ss.length ∧ zm ≤ 1048576 ∧ z = .int .i64 zm ∧ i = .int .i64 j ∧ Aside ((∀ i, i < j → (ss.getD i ByteArray.empty).size ≤ 1048576) ∧ ss.length - j ≤ g) ∧ w = wr)
            case atStart => exact ⟨0, zn + ss.length, Nat.zero_le _, h8, by go_num, rfl, ⟨fun i h => absurd h (Nat.not_lt_zero _), Nat.le_refl _⟩, rfl⟩
            case round =>
              obtain ⟨j, zm, hj, hzm, rfl, rfl, hE2, rfl⟩ := hrel
              by_cases hjl : j < ss.length
              · obtain ⟨y, rfl, hcy⟩ := HR.out j hjl
                have hsz := HRS.out j hjl
                unfold maxLen at hsz
                obtain ⟨s, hs⟩ : ∃ s, s = ss.getD j ByteArray.empty := ⟨_, rfl⟩
                rw [← hs] at hcy hsz
                have HSJ : Aside (s = ss.getD j ByteArray.empty) := hs
                clear hs
                by_cases hs1 : s.size ≤ 1048576
                · by_cases hov : zm + s.size ≤ 1048576
                  · go_wp2
                    go_roundg (ss.length - (j + 1))
                    case measure => have := hE2.out.2; omega
                    case rel => exact ⟨j + 1, zm + s.size, by omega, hov, by go_num, by go_num, ⟨fun i hi => by by_cases e : i = j; (subst e; rw [← HSJ.out]; exact hs1); exact hE2.out.1 i (by omega), Nat.le_refl _⟩, rfl⟩
                  · go_wp2
                    go_ret
                    exact ⟨false, rfl, (fun h => by cases h), rfl⟩
                · go_wp2
                  go_ret
                  exact ⟨false, rfl, (fun h => by cases h), rfl⟩
              · obtain rfl : j = ss.length := by omega
                go_wp2
                go_roundg (K.length - (k + 1))
                case measure => have := hEK.out.2; omega
                case rel => exact ⟨k + 1, zm, by omega, by omega, rfl, by go_num, ⟨fun i hi => by by_cases e : i = k; (subst e; rw [← HSS.out]; exact ⟨h1, hE2.out.1⟩); exact hEK.out.1 i (by omega), Nat.le_refl _⟩, rfl⟩
          · go_wp2
            go_ret
            exact ⟨false, rfl, (fun h => by cases h), rfl⟩
        · go_wp2
          go_ret
          exact ⟨false, rfl, (fun h => by cases h), rfl⟩
      · obtain rfl : k = K.length := by omega
        by_cases hbV : V.length ≤ 1048576
        · by_cases hzV : zn + V.length ≤ 1048576
          · go_wp2_with fail
            go_loopg [5, 8] V.length (fun g z i wr => ∃ k zn : Nat, k ≤ V.length ∧ zn ≤ 1048576 ∧ z = .int .i64 zn ∧ i = .int .i64 k ∧ Aside ((∀ i, i < k → (V.getD i []).length ≤ 1048576 ∧ ∀ j, j < (V.getD i []).length → ((V.getD i []).getD j ByteArray.empty).size ≤ 1048576) ∧ V.length - k ≤ g) ∧ w = wr)
            case atStart => exact ⟨0, _, Nat.zero_le _, hzV, by go_num, rfl, ⟨fun i h => absurd h (Nat.not_lt_zero _), Nat.le_refl _⟩, rfl⟩
            case round =>
              obtain ⟨k, zn, hk, hz, rfl, rfl, hEV, rfl⟩ := hrel
              by_cases hlt : k < V.length
              · obtain ⟨x, r, c, rfl, hc, hrow⟩ := HGV.out k hlt
                obtain ⟨hrl, hrs⟩ := HMV.out.2 k hlt
                unfold maxLen at hrl
                obtain ⟨ss, hss⟩ : ∃ ss, ss = V.getD k [] := ⟨_, rfl⟩
                rw [← hss] at hc hrow hrl hrs
                have HSS : Aside (ss = V.getD k []) := hss
                have HR : Aside (RowAt w r ss) := hrow
                have HRS : Aside (∀ j, j < ss.length → (ss.getD j ByteArray.empty).size ≤ maxLen) := hrs
                clear hrow hrs hss
                by_cases h1 : ss.length ≤ 1048576
                · by_cases h8 : zn + ss.length ≤ 1048576
                  · go_wp2_with fail
                    go_loopg [5, 9] ss.length (fun g z i wr => ∃ j zm : Nat, j ≤ ss.length ∧ zm ≤ 1048576 ∧ z = .int .i64 zm ∧ i = .int .i64 j ∧ Aside ((∀ i, i < j → (ss.getD i ByteArray.empty).size ≤ 1048576) ∧ ss.length - j ≤ g) ∧ w = wr)
                    case atStart => exact ⟨0, zn + ss.length, Nat.zero_le _, h8, by go_num, rfl, ⟨fun i h => absurd h (Nat.not_lt_zero _), Nat.le_refl _⟩, rfl⟩
                    case round =>
                      obtain ⟨j, zm, hj, hzm, rfl, rfl, hE2, rfl⟩ := hrel
                      by_cases hjl : j < ss.length
                      · obtain ⟨y, rfl, hcy⟩ := HR.out j hjl
                        have hsz := HRS.out j hjl
                        unfold maxLen at hsz
                        obtain ⟨s, hs⟩ : ∃ s, s = ss.getD j ByteArray.empty := ⟨_, rfl⟩
                        rw [← hs] at hcy hsz
                        have HSJ : Aside (s = ss.getD j ByteArray.empty) := hs
                        clear hs
                        by_cases hs1 : s.size ≤ 1048576
                        · by_cases hov : zm + s.size ≤ 1048576
                          · go_wp2
                            go_roundg (ss.length - (j + 1))
                            case measure => have := hE2.out.2; omega
                            case rel => exact ⟨j + 1, zm + s.size, by omega, hov, by go_num, by go_num, ⟨fun i hi => by by_cases e : i = j; (subst e; rw [← HSJ.out]; exact hs1); exact hE2.out.1 i (by omega), Nat.le_refl _⟩, rfl⟩
                          · go_wp2
                            go_ret
                            exact ⟨false, rfl, (fun h => by cases h), rfl⟩
                        · go_wp2
                          go_ret
                          exact ⟨false, rfl, (fun h => by cases h), rfl⟩
                      · obtain rfl : j = ss.length := by omega
                        go_wp2
                        go_roundg (V.length - (k + 1))
                        case measure => have := hEV.out.2; omega
                        case rel => exact ⟨k + 1, zm, by omega, by omega, rfl, by go_num, ⟨fun i hi => by by_cases e : i = k; (subst e; rw [← HSS.out]; exact ⟨h1, hE2.out.1⟩); exact hEV.out.1 i (by omega), Nat.le_refl _⟩, rfl⟩
                  · go_wp2
                    go_ret
                    exact ⟨false, rfl, (fun h => by cases h), rfl⟩
                · go_wp2
                  go_ret
                  exact ⟨false, rfl, (fun h => by cases h), rfl⟩
              · obtain rfl : k = V.length := by omega
                go_wp2
                go_ret
                exact ⟨true, rfl, fun _ => ⟨⟨hbK, hEK.out.1⟩, ⟨hbV, hEV.out.1⟩⟩, rfl⟩
          · go_wp2
            go_ret
            exact ⟨false, rfl, (fun h => by cases h), rfl⟩
        · go_wp2
          go_ret
          exact ⟨false, rfl, (fun h => by cases h), rfl⟩
  · go_enter Try.func6, Try.ntmps6
    go_wp2
    go_ret
    exact ⟨false, rfl, (fun h => by cases h), rfl⟩
end Go.Proofs.Qxb6604637a
