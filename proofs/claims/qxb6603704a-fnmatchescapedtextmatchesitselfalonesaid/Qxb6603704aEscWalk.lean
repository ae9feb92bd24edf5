/-
  THE WALK of FnMatchEscapedTextMatchesItselfAlone (function 4).
-/
import Derived.Test.Qxb6603704aMatchWalk
import Derived.Test.Qxb6603704aEscPlain
import Derived.Laws.BytesArg
namespace Go.Proofs.Qxb6603704a
open Go.RowKit
namespace fnMatchEscapedTextMatchesItselfAlone

theorem info5 : (Try.prog.info? 5).map (fun i => (i.zero, i.size, i.bytes)) = some (some (.int .u8 0), 1, 1) := by kernel_rfl

theorem fits_yes (s t : ByteArray) (w : World) (hs : s.size + t.size ≤ 1048576) :
    Calls Try.prog 14 #[.string s, .string t] w fun e w' => e = .returned (.bool true) ∧ w' = w := by
  go_enter Try.func14, Try.ntmps14
  go_wp2
  go_ret
  exact ⟨rfl, rfl⟩
theorem fits_no (s t : ByteArray) (w : World) (hm : s.size ≤ maxLen) (hm2 : t.size ≤ maxLen) (hs : ¬ s.size + t.size ≤ 1048576) :
    Calls Try.prog 14 #[.string s, .string t] w fun e w' => e = .returned (.bool false) ∧ w' = w := by
  unfold maxLen at hm hm2
  by_cases h1 : 1048576 < s.size
  · go_enter Try.func14, Try.ntmps14
    go_wp2
    go_ret
    exact ⟨rfl, rfl⟩
  · by_cases h2 : 1048576 < t.size
    · go_enter Try.func14, Try.ntmps14
      go_wp2
      go_ret
      exact ⟨rfl, rfl⟩
    · go_enter Try.func14, Try.ntmps14
      go_wp2
      go_ret
      exact ⟨rfl, rfl⟩

/-- The escaped text's cells. -/
def cellsOf (l : List UInt8) : List Value := (G.escL l).map fun b => Value.int .u8 b.toNat

theorem take_snoc (s : ByteArray) (k : Nat) (h : k < s.size) : s.data.toList.take (k + 1) = s.data.toList.take k ++ [s[k]] := by
  rw [List.take_succ_eq_append_getElem (by simpa using h)]; rfl
theorem cells_snoc (s : ByteArray) (k : Nat) (h : k < s.size) : cellsOf (s.data.toList.take (k + 1)) = cellsOf (s.data.toList.take k) ++ [.int .u8 92, .int .u8 s[k].toNat] := by
  unfold cellsOf
  rw [take_snoc s k h, G.escL_append, List.map_append]; rfl
theorem cells_two (w : World) (a b : Value) (e : TypeId) : ∀ (j : Nat) (u : Value), [a, b][j]? = some u → (w.alloc (.cells #[a, b] e)).cell? ((⟨w.heap.size, 0, none⟩ : Addr).add j) = some u := by
  intro j u hj
  match j, hj with
  | 0, hj => simp at hj; subst hj; simp [Addr.add]
  | 1, hj => simp at hj; subst hj; simp [Addr.add]
theorem eqs (s t : ByteArray) : (decide (s.data = t.data) == (s.toList == t.toList)) = true := by
  rw [Lib.toList_data, Lib.toList_data]
  by_cases h : s.data = t.data
  · simp [h]
  · have h2 : ¬ s.data.toList = t.data.toList := fun e => h (Array.toList_inj.mp e)
    simp [h]
/-- The numbers of the escaped text. -/
def numsOf (l : List UInt8) : List Int := (G.escL l).map fun b => (b.toNat : Int)
theorem str_nums (l : List UInt8) : (strOfNums (numsOf l)).data.toList = G.escL l := by
  unfold strOfNums numsOf
  simp [List.map_map, Function.comp_def]
theorem nums_len (l : List UInt8) : (numsOf l).length = 2 * l.length := by unfold numsOf; rw [List.length_map, G.escL_length]
theorem str_size (l : List UInt8) : (strOfNums (numsOf l)).size = 2 * l.length := by rw [← len_l, str_nums, G.escL_length]
theorem conv (s : ByteArray) (B : Nat) (wr : World) (hown : wr.ownsRow B 5 1 (.slice (some ⟨B, 0, none⟩) (2 * s.size) (2 * s.size)) (2 * s.size) (cellsOf s.data.toList)) :
    (convert 28 9 (.slice (some ⟨B, 0, none⟩) (2 * s.size) (2 * s.size))).run Try.prog wr = .ok (.string (strOfNums (numsOf s.data.toList))) wr := by
  refine run_convert_bytes_arg wr 28 5 Try.underlying28 Try.underlying5 B 0 (2 * s.size) (2 * s.size) (numsOf s.data.toList) (by rw [nums_len, len_l]) ?_ 9 Try.underlying9
  intro i hi
  rw [Nat.zero_add, hown.cellAt i (by omega)]
  have hl : i < (numsOf s.data.toList).length := by rw [nums_len, len_l]; exact hi
  have hl2 : i < (cellsOf s.data.toList).length := by unfold cellsOf; unfold numsOf at hl; simpa using hl
  rw [List.getElem?_eq_getElem hl2, List.getD_eq_getElem?_getD, List.getElem?_eq_getElem hl]
  simp [cellsOf, numsOf]

set_option maxRecDepth 100000 in
set_option maxHeartbeats 400000 in
theorem core (s t : ByteArray) (w : World) (hs : s.size ≤ 65536) (ht : t.size ≤ 65536) :
    Calls Try.prog 4 #[.string s, .string t] w fun e w' => e = .returned (.bool true) ∧ Below w.heap.size w w' := by
  obtain ⟨i0, hi, hz0, hz1, hz2⟩ := info_parts info5
  go_enter Try.func4, Try.ntmps4
  go_wp2_with fail
  refine (fits_yes _ _ _ (by omega)).mono ?_
  rintro e w' ⟨rfl, rfl⟩
  go_wp2_with (at_make; refine wpList_make_own _ rfl _ _ 28 rfl w'.heap.size 5 i0 (.int .u8 0) 1 Try.underlying28 hi hz0 hz1 _ _ _ (2 * s.size) rfl rfl (by push_cast; rfl) (by rw [hz2]; omega) (by unfold maxLen; omega) (Nat.le_refl _) ?_; intro w1 hown1 hgrow1)
  have hb1 : Below w'.heap.size w' w1 := (Below.refl _ _).grown hgrow1 (Nat.le_refl _) (by intro r hr; cases hr)
  clear hgrow1
  go_loopg [5, 6] s.size (fun g v i wr => ∃ k : Nat, k ≤ s.size ∧ v = .slice (some ⟨w'.heap.size, 0, none⟩) (2 * k) (2 * s.size) ∧ i = .int .i64 k ∧ wr.ownsRow w'.heap.size 5 1 (.slice (some ⟨w'.heap.size, 0, none⟩) (2 * k) (2 * s.size)) (2 * k) (cellsOf (s.data.toList.take k)) ∧ Aside (s.size - k ≤ g) ∧ Below w'.heap.size w' wr)
  case atStart => exact ⟨0, by omega, rfl, rfl, hown1, Nat.le_refl _, hb1⟩
  case round =>
    obtain ⟨k, hk, rfl, rfl, hown, hg, hbr⟩ := hrel
    clear hown1 hb1
    by_cases hlt : k < s.size
    · go_wp2_with (at_builtin; refine wpList_append_fits _ rfl (.tmp 27) (.tmp 31) 28 rfl w'.heap.size 5 i0 1 Try.underlying28 hi hz1 w'.heap.size (2 * k) (2 * s.size) _ rfl (hown.alloc _) ⟨wr.heap.size, 0, none⟩ 2 2 [.int .u8 92, .int .u8 s[k].toNat] rfl rfl ?c1 ?c2 (by omega) ?_)
      case c1 => exact cells_two _ _ _ _
      case c2 => intro u hu; simp at hu; rcases hu with rfl | rfl <;> rfl
      · intro w2 hown2 hgrow2
        have hb2 : Below w'.heap.size w' w2 := (hbr.alloc hbr.size _).grown hgrow2 (by have := hbr.size; simp; omega) (by intro r hr; cases hr; exact Nat.le_refl _)
        rw [← cells_snoc s k hlt] at hown2
        clear hgrow2 hbr hown
        go_wp2
        go_roundg (s.size - (k + 1))
        case measure => have := hg.out; omega
        case rel => exact ⟨k + 1, by omega, rfl, by go_num, hown2, Nat.le_refl _, hb2⟩
    · have hk2 : k = s.size := by omega
      subst hk2
      rw [List.take_of_length_le (by rw [len_l]; exact Nat.le_refl _)] at hown
      have hcv := conv s w'.heap.size wr hown
      clear hown
      go_wp2_with fail
      have hm := match_any (strOfNums (numsOf s.data.toList)) t wr (by rw [str_size, len_l]; omega) (by omega)
      rw [str_nums, G.esc_law] at hm
      refine hm.mono ?_
      rintro e w2 ⟨rfl, n, rfl⟩
      clear hm hcv
      go_wp2
      go_ret
      exact ⟨ret_bool (eqs s t), below_drewN hbr n⟩

set_option maxHeartbeats 400000 in
theorem walk (a0 : ByteArray) (a1 : ByteArray) (w0 : a0.size ≤ maxLen) (w1 : a1.size ≤ maxLen) (w : World) :
    Calls Try.prog 4 #[.string a0, .string a1] w fun e w' => e = .returned (.bool true) ∧ Below w.heap.size w w' := by
  by_cases hbig : a0.size + a1.size ≤ 1048576
  · by_cases h1 : a0.size ≤ 65536
    · by_cases h2 : a1.size ≤ 65536
      · exact core a0 a1 w h1 h2
      · go_enter Try.func4, Try.ntmps4
        go_wp2_with fail
        refine (fits_yes _ _ _ hbig).mono ?_
        rintro e w' ⟨rfl, rfl⟩
        go_wp2
        go_ret
        exact ⟨rfl, Below.refl _ _⟩
    · go_enter Try.func4, Try.ntmps4
      go_wp2_with fail
      refine (fits_yes _ _ _ hbig).mono ?_
      rintro e w' ⟨rfl, rfl⟩
      go_wp2
      go_ret
      exact ⟨rfl, Below.refl _ _⟩
  · go_enter Try.func4, Try.ntmps4
    go_wp2_with fail
    refine (fits_no _ _ _ w0 w1 hbig).mono ?_
    rintro e w' ⟨rfl, rfl⟩
    go_wp2
    go_ret
    exact ⟨rfl, Below.refl _ _⟩
end fnMatchEscapedTextMatchesItselfAlone
end Go.Proofs.Qxb6603704a
