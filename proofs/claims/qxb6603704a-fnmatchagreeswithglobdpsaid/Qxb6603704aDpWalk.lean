/-
  THE WALK of FnMatchAgreesWithGlobDP (function 3).
-/
import Derived.Test.Qxb6603704aGlobWalk
import Derived.Test.Qxb6603704aMatchWalk
namespace Go.Proofs.Qxb6603704a
open Go.RowKit
namespace fnMatchAgreesWithGlobDP

theorem fits_yes (s t : ByteArray) (w : World) (hs : s.size + t.size ≤ 1048576) :
    Calls Try.prog 10 #[.string s, .string t] w fun e w' => e = .returned (.bool true) ∧ w' = w := by
  go_enter Try.func10, Try.ntmps10
  go_wp2
  go_ret
  exact ⟨rfl, rfl⟩
theorem fits_no (s t : ByteArray) (w : World) (hm : s.size ≤ maxLen) (hm2 : t.size ≤ maxLen) (hs : ¬ s.size + t.size ≤ 1048576) :
    Calls Try.prog 10 #[.string s, .string t] w fun e w' => e = .returned (.bool false) ∧ w' = w := by
  unfold maxLen at hm hm2
  by_cases h1 : 1048576 < s.size
  · go_enter Try.func10, Try.ntmps10
    go_wp2
    go_ret
    exact ⟨rfl, rfl⟩
  · by_cases h2 : 1048576 < t.size
    · go_enter Try.func10, Try.ntmps10
      go_wp2
      go_ret
      exact ⟨rfl, rfl⟩
    · go_enter Try.func10, Try.ntmps10
      go_wp2
      go_ret
      exact ⟨rfl, rfl⟩

theorem bel_drewN {B : Nat} {a w : World} (h : Below B a w) (n : Nat) : Below B a (w.drewN n) := h.trans ⟨rfl, rfl, rfl, Nat.le_refl _, fun _ _ => rfl⟩
theorem kCells_at (ts : List G.Tok) (j : Nat) (h : j < ts.length) : (kCells ts)[j]? = some (.int .i64 (G.kd ts j)) := by
  unfold kCells G.kd
  rw [List.getElem?_map, List.getElem?_eq_getElem h, List.getD_eq_getElem?_getD, List.getElem?_eq_getElem h]; rfl
theorem sCells_at : ∀ (ts : List G.Tok) (j c : Nat), j < ts.length → c < 256 → (sCells ts)[j * 256 + c]? = some (.bool (G.tb ts j c))
  | [], j, c, h, _ => by simp at h
  | t :: ts, 0, c, _, hc => by
    show ((tab t.2).toList ++ sCells ts)[0 * 256 + c]? = _
    rw [Nat.zero_mul, Nat.zero_add, List.getElem?_append_left (by rw [tab_len]; exact hc), Array.getElem?_toList, tab_at t.2 c hc]; rfl
  | t :: ts, j + 1, c, h, hc => by
    show ((tab t.2).toList ++ sCells ts)[(j + 1) * 256 + c]? = _
    rw [List.getElem?_append_right (by rw [tab_len]; omega), tab_len, show (j + 1) * 256 + c - 256 = j * 256 + c from by omega, sCells_at ts j c (by simpa using h) hc]; rfl

set_option maxRecDepth 100000 in
set_option maxHeartbeats 400000 in
theorem core (s t : ByteArray) (w : World) (hs : s.size ≤ 4096) (ht : t.size ≤ 4096) :
    Calls Try.prog 3 #[.string s, .string t] w fun e w' => e = .returned (.bool true) ∧ Below w.heap.size w w' := by
  go_enter Try.func3, Try.ntmps3
  go_wp2_with fail
  refine (fits_yes _ _ _ (by omega)).mono ?_
  rintro e w' ⟨rfl, rfl⟩
  go_wp2_with fail
  refine (toks_any s w' hs).mono ?_
  rintro e w1 ⟨A1, A2, rfl, hA, hrows, hbel⟩
  have hlen := G.toks_len s.data.toList _ 0 rfl
  rw [len_l] at hlen
  have hlt1 := hrows.lt1
  have hlt2 := hrows.lt2
  have hkc : ∀ j, j < (G.toks s.data.toList 0).length → w1.cell? ⟨A1, j, none⟩ = some (.int .i64 (G.kd (G.toks s.data.toList 0) j)) := fun j hj => by
    rw [hrows.r1.cellAt j (by omega)]; exact kCells_at _ j hj
  have hsc : ∀ j c, j < (G.toks s.data.toList 0).length → c < 256 → w1.cell? ⟨A2, j * 256 + c, none⟩ = some (.bool (G.tb (G.toks s.data.toList 0) j c)) := fun j c hj hc => by
    rw [hrows.r2.cellAt (j * 256 + c) (by omega)]; exact sCells_at _ j c hj hc
  have hmt := match_any s t w1 (by omega) (by omega)
  have hgl := fun n => glob_any (G.toks s.data.toList 0) (G.toks s.data.toList 0).length t A1 A2 s.size (w1.drewN n) ht (by omega) hlt1 hlt2 hkc hsc
  have hdp := G.dp_match s.data.toList t.data.toList
  rw [len_l] at hdp
  simp only [hdp] at hgl
  clear hkc hsc hdp hrows hlt1 hlt2 hA
  generalize (G.toks s.data.toList 0).length = m at *
  generalize G.matchP s.data.toList t.data.toList = r at *
  have HMT : Aside (Calls Try.prog 12 #[.string s, .string t] w1 fun e w' => e = .returned (.bool r) ∧ ∃ n, w' = w1.drewN n) := hmt
  have HGL : Aside (∀ n, Calls Try.prog 13 #[.slice (some ⟨A1, 0, none⟩) m s.size, .slice (some ⟨A2, 0, none⟩) m s.size, .string t] (w1.drewN n) fun e w' => e = .returned (.bool r) ∧ Below (w1.drewN n).heap.size (w1.drewN n) w') := hgl
  clear hmt hgl
  go_wp2_with fail
  refine HMT.out.mono ?_
  rintro e w2 ⟨rfl, n, rfl⟩
  go_wp2_with fail
  refine (HGL.out n).mono ?_
  rintro e w3 ⟨rfl, hb3⟩
  go_wp2
  go_ret
  exact ⟨ret_bool (by simp), (bel_drewN hbel n).trans (hb3.mono hbel.size)⟩

set_option maxHeartbeats 400000 in
theorem walk (a0 : ByteArray) (a1 : ByteArray) (w0 : a0.size ≤ maxLen) (w1 : a1.size ≤ maxLen) (w : World) :
    Calls Try.prog 3 #[.string a0, .string a1] w fun e w' => e = .returned (.bool true) ∧ Below w.heap.size w w' := by
  by_cases hbig : a0.size + a1.size ≤ 1048576
  · by_cases h1 : a0.size ≤ 4096
    · by_cases h2 : a1.size ≤ 4096
      · exact core a0 a1 w h1 h2
      · go_enter Try.func3, Try.ntmps3
        go_wp2_with fail
        refine (fits_yes _ _ _ hbig).mono ?_
        rintro e w' ⟨rfl, rfl⟩
        go_wp2
        go_ret
        exact ⟨rfl, Below.refl _ _⟩
    · go_enter Try.func3, Try.ntmps3
      go_wp2_with fail
      refine (fits_yes _ _ _ hbig).mono ?_
      rintro e w' ⟨rfl, rfl⟩
      go_wp2
      go_ret
      exact ⟨rfl, Below.refl _ _⟩
  · go_enter Try.func3, Try.ntmps3
    go_wp2_with fail
    refine (fits_no _ _ _ w0 w1 hbig).mono ?_
    rintro e w' ⟨rfl, rfl⟩
    go_wp2
    go_ret
    exact ⟨rfl, Below.refl _ _⟩
end fnMatchAgreesWithGlobDP
end Go.Proofs.Qxb6603704a
