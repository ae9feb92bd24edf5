/-
  THE WALK of FnNumberDenseFirstAppearance (function 3).
-/
import Derived.Test.Qxb6603398aNumWalk
import Derived.Deep.QuietTactic
import Derived.BigQuiet
import Derived.Deep.CutBlock
namespace Go.Proofs.Qxb6603398a
open Go.RowKit Go.Maps Go.WideMaps

theorem info9' : (Try.prog.info? 9).map (fun i => (i.zero, i.size, i.bytes)) = some (some (.string ByteArray.empty), 1, 16) := by kernel_rfl
/-- The row of names at block A. -/
def Names (B : Nat) (w : World) (A n : Nat) (D : List ByteArray) : Prop := w.ownsRow B 9 1 (.slice (some ⟨A, 0, none⟩) D.length n) D.length (D.map Value.string)
theorem Names.cell {B : Nat} {w : World} {A n : Nat} {D : List ByteArray} (h : Names B w A n D) (i : Nat) (hi : i < D.length) : w.cell? ⟨A, i, none⟩ = some (.string (D.getD i ByteArray.empty)) := by
  rw [World.ownsRow.cellAt h i (by omega)]; simp [hi]
theorem Names.left {B M : Nat} {w w' : World} {A n : Nat} {D : List ByteArray} (h : Names B w A n D) (hl : Left B M w w') (hA : A ≠ M) : Names B w' A n D := by
  refine ⟨h.1, ?_⟩
  rcases h.2 with ⟨h', _⟩ | ⟨g, cap, cur, h', hb, hg, rest⟩
  · simp at h'
  · have e := h'
    simp only [Value.slice.injEq, Option.some.injEq, Addr.mk.injEq, and_true, true_and] at e
    obtain ⟨rfl, rfl⟩ := e
    exact Or.inr ⟨A, n, cur, rfl, hb, hl.rows A cur 9 (0, 0) hA hg, rest⟩
theorem MapSt.grown {B : Nat} {w w' : World} {M A : Nat} {D : List ByteArray} (h : MapSt B w M D) (hg : w.grownBy w' (some A)) (hA : A ≠ M) (hc : ∃ cs t fr, w.heap[A]? = some (.cells cs t fr)) : MapSt B w' M D := by
  obtain ⟨hB, ⟨e, hM⟩ | ⟨b, C, hb, hne, hM, hown, hgood⟩⟩ := h
  · exact ⟨hB, Or.inl ⟨e, by rw [hg.block M (lt_of_block hM) (by simp; omega)]; exact hM⟩⟩
  · obtain ⟨cs, t, fr, hc⟩ := hc
    have hne2 := not_map hown hc
    exact ⟨hB, Or.inr ⟨b, C, hb, hne, by rw [hg.block M (lt_of_block hM) (by simp; omega)]; exact hM, hown.kept hg (by simp; omega), hgood⟩⟩
theorem MapSt.alloc {B : Nat} {w : World} {M : Nat} {D : List ByteArray} (h : MapSt B w M D) (o : Obj) : MapSt B (w.alloc o) M D := by
  obtain ⟨hB, ⟨e, hM⟩ | ⟨b, C, hb, hne, hM, hown, hgood⟩⟩ := h
  · exact ⟨hB, Or.inl ⟨e, by rw [heap_alloc_old w o (lt_of_block hM)]; exact hM⟩⟩
  · exact ⟨hB, Or.inr ⟨b, C, hb, hne, by rw [heap_alloc_old w o (lt_of_block hM)]; exact hM, hown.alloc o, hgood⟩⟩
theorem Names.isRow {B : Nat} {w : World} {A n : Nat} {D : List ByteArray} (h : Names B w A n D) : ∃ cs t fr, w.heap[A]? = some (.cells cs t fr) := by
  rcases h.2 with ⟨h', _⟩ | ⟨g, cap, cur, h', hb, hg, rest⟩
  · simp at h'
  · simp only [Value.slice.injEq, Option.some.injEq, Addr.mk.injEq, and_true, true_and] at h'
    obtain ⟨rfl, rfl⟩ := h'
    exact ⟨_, _, _, hg⟩
theorem one_new (w : World) (a : Value) (e : TypeId) : ∀ (j : Nat) (u : Value), [a][j]? = some u → (w.alloc (.cells #[a] e)).cell? ((⟨w.heap.size, 0, none⟩ : Addr).add j) = some u := by
  intro j u hj
  match j, hj with
  | 0, hj => simp at hj; subst hj; simp [Addr.add]

set_option maxRecDepth 100000 in
set_option maxHeartbeats 800000 in
theorem core (x : Addr) (n cap : Nat) (ss : List ByteArray) (w : World) (hn0 : n ≤ maxLen) (hsz : ∀ i, i < n → (ss.getD i ByteArray.empty).size ≤ maxLen) (hcell : ∀ i, i < n → w.cell? (x.add i) = some (.string (ss.getD i ByteArray.empty))) :
    Calls Try.prog 3 #[.slice (some x) n cap] w fun e w' => e = .returned (.bool true) ∧ Below w.heap.size w w' := by
  obtain ⟨i9, hi9, hz90, hz91, hz92⟩ := info_parts info9'
  have HC : Aside (∀ i, i < n → w.cell? (x.add i) = some (.string (ss.getD i ByteArray.empty))) := hcell
  have A6 : Aside (Calls Try.prog 6 #[.slice (some x) n cap] w fun e w' => ∃ r, e = .returned (.bool r) ∧ (r = true → Small ss n) ∧ w' = w) := bytes_any x n cap ss w hn0 hsz hcell
  clear hcell hsz hn0
  go_enter Try.func3, Try.ntmps3
  go_wp2_with fail
  refine A6.out.mono ?_
  rintro e w' ⟨r, rfl, hsm, rfl⟩
  clear A6
  cases r with
  | false =>
    clear hsm
    go_wp2
    go_ret
    exact ⟨rfl, Below.refl _ _⟩
  | true =>
  have hsm1 := hsm rfl
  clear hsm
  have hnb := hsm1.1
  by_cases hn : n ≤ 4096
  rotate_left
  · go_wp2
    go_ret
    exact ⟨rfl, Below.refl _ _⟩
  have A7 : Aside (Calls Try.prog 7 #[.slice (some x) n cap] w' fun e w'' => ∃ r, e = .returned (.bool r) ∧ w'' = w') := fits_any x n cap ss w' hn hsm1 HC.out
  have HS : Aside (∀ i, i < n → (ss.getD i ByteArray.empty).size ≤ 1048576) := hsm1.2
  clear hsm1
  go_wp2_with fail
  refine A7.out.mono ?_
  rintro e w'' ⟨r, rfl, rfl⟩
  cases r with
  | false =>
    go_wp2
    go_ret
    exact ⟨rfl, Below.refl _ _⟩
  | true =>
  clear A7
  go_upto_block 0 with (at_make; refine wpList_make_own _ rfl _ _ 22 rfl (w''.heap.size) 9 i9 (.string ByteArray.empty) 1 Try.underlying22 hi9 hz90 hz91 _ _ _ n rfl rfl rfl (by rw [hz92]; omega) (by unfold maxLen; omega) (by simp) ?_; intro w1 hown1 hgrow1)
  have hM0 : MapSt w''.heap.size w1 w''.heap.size [] := by
    have h0 : (w''.alloc (.cells #[.map none] 24)).heap[w''.heap.size]? = some (.cells #[.map none] 24 (0, 0)) := heap_alloc_new w'' _
    exact ⟨Nat.le_refl _, Or.inl ⟨rfl, by rw [hgrow1.block _ (by simp) (by simp)]; exact h0⟩⟩
  have hN0 : Names w''.heap.size w1 (w''.heap.size + 1) n [] := by
    have := hown1
    rw [show (w''.alloc (.cells #[.map none] 24)).heap.size = w''.heap.size + 1 from by simp] at this
    exact this
  have hB0 : Below w''.heap.size w'' w1 := ((Below.refl _ _).alloc (Nat.le_refl _) _).grown hgrow1 (by simp) (by intro k hk; cases hk)
  clear hown1 hgrow1
  go_wp2_with fail
  go_loopg [4, 5] n (fun g v i wr => ∃ (k : Nat) (D : List ByteArray), k ≤ n ∧ D.length ≤ k ∧ v = .slice (some ⟨w''.heap.size + 1, 0, none⟩) D.length n ∧ i = .int .i64 k ∧ Aside ((0 < k → D ≠ []) ∧ (∀ s ∈ D, s.size ≤ 1048576) ∧ n - k ≤ g) ∧ Names w''.heap.size wr (w''.heap.size + 1) n D ∧ MapSt w''.heap.size wr w''.heap.size D ∧ Below w''.heap.size w'' wr)
  case atStart => exact ⟨0, [], Nat.zero_le _, Nat.le_refl _, rfl, rfl, ⟨fun h => absurd h (Nat.not_lt_zero _), (fun s hs => by cases hs), Nat.le_refl _⟩, hN0, hM0, hB0⟩
  case round =>
    clear hN0 hM0 hB0
    obtain ⟨k, D, hk, hDk, rfl, rfl, hE, hN, hM, hbel⟩ := hrel
    by_cases hlt : k < n
    · have hc0 := HC.out k hlt
      have hc := (hbel.cell (p := x.add k) (block_lt_of_cell hc0)).trans hc0
      have hss := HS.out k hlt
      clear hc0
      generalize ss.getD k ByteArray.empty = s at hc hss
      have HIX : Aside _ := index_any (w''.heap.size + 1) n D s wr (by omega) hN.cell
      go_wp2_with fail
      have hix := HIX.out
      refine Calls.mono hix ?_
      rintro e w2 ⟨r, rfl, hr, rfl⟩
      clear hix HIX
      rcases hr with ⟨j, hj, rfl, hjs⟩ | ⟨rfl, hnot⟩
      · have HF : Aside (Calls Try.prog 9 #[.pointer (some ⟨w''.heap.size, 0, none⟩), .string s, .int .i64 D.length] w2 fun e w' => e = .returned (.tuple #[.int .i32 j, .bool true]) ∧ w' = w2) := zz_found w''.heap.size w''.heap.size D s j D.length w2 hss hM hj hjs
        clear hjs
        go_wp2_with fail
        refine HF.out.mono ?_
        rintro e w3 ⟨rfl, rfl⟩
        go_wp2
        go_roundg (n - (k + 1))
        case measure => have := hE.out.2.2; omega
        case rel => exact ⟨k + 1, D, by omega, by omega, rfl, by go_num, ⟨(fun _ e => by rw [e] at hj; simp at hj), hE.out.2.1, Nat.le_refl _⟩, hN, hM, hbel⟩
      · have HF : Aside (Calls Try.prog 9 #[.pointer (some ⟨w''.heap.size, 0, none⟩), .string s, .int .i64 D.length] w2 fun e w' => e = .returned (.tuple #[.int .i32 D.length, .bool false]) ∧ MapSt w''.heap.size w' w''.heap.size (D ++ [s]) ∧ Left w''.heap.size w''.heap.size w2 w') := zz_fresh w''.heap.size w''.heap.size D s w2 hss (by omega) hM hnot
        clear hnot
        go_wp2_with fail
        refine HF.out.mono ?_
        rintro e w3 ⟨rfl, hM3, hl3⟩
        have hN3 := hN.left hl3 (by omega)
        have hbel3 := hbel.trans hl3.bel
        have hc3 : w3.cell? (x.add k) = some (.string s) := by
          have hb : (x.add k).block < w''.heap.size := block_lt_of_cell (HC.out k hlt)
          rw [hl3.bel.cell hb]; exact hc
        clear hN hM hbel hl3 HF hc
        go_wp2_with (at_builtin; refine wpList_append_fits _ rfl (.tmp 64) (.tmp 69) 22 rfl w''.heap.size 9 i9 1 Try.underlying22 hi9 hz91 (w''.heap.size + 1) D.length n _ rfl (World.ownsRow.alloc hN3 _) ⟨w3.heap.size, 0, none⟩ 1 1 [.string s] rfl rfl (one_new _ _ _) (by intro u hu; simp at hu; subst hu; rfl) (by omega) ?_; intro w4 hown4 hg4)
        have hlen : (D ++ [s]).length = D.length + 1 := by simp
        have hN4 : Names w''.heap.size w4 (w''.heap.size + 1) n (D ++ [s]) := by
          unfold Names; rw [hlen, List.map_append]; exact hown4
        have hM4 : MapSt w''.heap.size w4 w''.heap.size (D ++ [s]) := (hM3.alloc _).grown hg4 (by omega) (Names.isRow (World.ownsRow.alloc hN3 _))
        have hbel4 : Below w''.heap.size w'' w4 := (hbel3.alloc hbel3.size _).grown hg4 (by have := hbel3.size; simp; omega) (by intro r hr; cases hr; omega)
        clear hN3 hM3 hbel3 hown4 hg4
        go_roundg (n - (k + 1))
        case measure => have := hE.out.2.2; omega
        case rel => exact ⟨k + 1, D ++ [s], by omega, by omega, by rw [hlen], by go_num, ⟨(fun _ => by simp), (fun t ht => by rcases List.mem_append.1 ht with h | h; exact hE.out.2.1 t h; simp at h; subst h; exact hss), Nat.le_refl _⟩, hN4, hM4, hbel4⟩
    · obtain rfl : k = n := by omega
      obtain ⟨hBM, ⟨rfl, hM⟩ | ⟨b, C, hb, hne, hM, hown, hgood⟩⟩ := hM
      · obtain rfl : k = 0 := by
          rcases Nat.eq_zero_or_pos k with h | h
          · exact h
          · exact absurd rfl (hE.out.1 h)
        have hcm := cell_of_one hM
        have heq := fun w => run_eql_map_nil (P := Try.prog) w 24 9 21 none Try.underlying24
        go_wp2_with fail
        go_loopg [9] 0 (fun g i wx => i = .int .i64 0 ∧ Below w''.heap.size w'' wx)
        case atStart => exact ⟨rfl, hbel⟩
        case round =>
          clear hbel
          obtain ⟨rfl, hbel⟩ := hrel
          go_wp2
          go_ret
          exact ⟨rfl, hbel⟩
      · have hk0 : 0 < k := by
          rcases Nat.eq_zero_or_pos k with h | h
          · subst h; exact absurd (List.length_eq_zero_iff.mp (by omega)) hne
          · exact h
        have hk0' : ((k : Int) == 0) = false := beq_eq_false_iff_ne.mpr (by omega)
        have hcm := cell_of_one hM
        have heq := fun w => run_eql_map_nil (P := Try.prog) w 24 9 21 (some b) Try.underlying24
        have hszC := hgood.size
        go_wp2_with (refine wpList_len_own _ rfl (.tmp 77) 24 rfl 9 21 Try.underlying24 _ b _ C rfl hown ?_; rw [hszC])
        have HG : Aside (Good C D) := hgood
        clear hgood hszC
        go_loopg [9] D.length (fun g i wx => ∃ q : Nat, q ≤ D.length ∧ i = .int .i64 q ∧ Aside (D.length - q ≤ g) ∧ wx.heap[w''.heap.size]? = some (.cells #[.map (some b)] 24 (0, 0)) ∧ wx.ownsMap Try.prog 9 (plainElem Try.prog 21) b D.length C ∧ Names w''.heap.size wx (w''.heap.size + 1) k D ∧ Below w''.heap.size w'' wx)
        case atStart => exact ⟨0, Nat.zero_le _, rfl, Nat.le_refl _, hM, hown, hN, hbel⟩
        case round =>
          clear hM hown hN hbel hcm
          obtain ⟨q, hq, rfl, hg2, hM, hown, hN, hbel⟩ := hrel
          by_cases hql : q < D.length
          · have hcm := cell_of_one hM
            have hcq := hN.cell q hql
            have hmem : D.getD q ByteArray.empty ∈ D := by rw [List.getD_eq_getElem?_getD, List.getElem?_eq_getElem hql]; exact List.getElem_mem _
            have hkey := keyOf_string_mk (P := Try.prog) Try.underlying9 (s := D.getD q ByteArray.empty) (by have := hE.out.2.1 _ hmem; unfold maxLen; omega)
            have hlk : ∀ m, (Instr.lookup 24 (.map (some b)) (.string (D.getD q ByteArray.empty)) true).run Try.prog (wr.drewN m) = .ok (.tuple #[.int .i32 q, .bool true]) (wr.drewN m) := by
              intro m
              have hown' : (wr.drewN m).ownsMap Try.prog 9 (plainElem Try.prog 21) b D.length C := hown
              obtain ⟨v, ps, hrun, hv⟩ := hown'.look_ok law Try.underlying24 (zero21 _) (plainElem_int Try.underlying21 (by decide)) hkey
              have hh : Maps.has C (.string (D.getD q ByteArray.empty).data.toList) = true := (HG.out.has _).2 hmem
              have hp : C.atKey (.string (D.getD q ByteArray.empty).data.toList) (.lit (.int .i32 0)) = .lit (.int .i32 q) := HG.out.place q hql
              rw [hp] at hv
              obtain ⟨c, rfl, hc, _⟩ := plainElem_int_inv Try.underlying21 hv
              have : c = (q : Int) := by have := congrArg Prod.fst hc; simpa using this.symm
              rw [hrun, hh, this]
            generalize D.getD q ByteArray.empty = t at hcq hlk
            clear hkey hmem
            have hqi : (q : Int) < D.length := by omega
            go_wp2_with fail
            go_quiet (fail)
            go_wp2
            go_roundg (D.length - (q + 1))
            case measure => have := hg2.out; omega
            case rel => exact ⟨q + 1, by omega, by go_num, Nat.le_refl _, hM, hown, hN, hbel.trans ⟨rfl, rfl, rfl, Nat.le_refl _, fun _ _ => rfl⟩⟩
          · go_wp2
            go_ret
            exact ⟨rfl, hbel⟩
/-! ### no name at all -/
theorem bytes_none (a : Option Addr) (cap : Nat) (w : World) : Calls Try.prog 6 #[.slice a 0 cap] w fun e w' => e = .returned (.bool true) ∧ w' = w := by
  go_enter Try.func6, Try.ntmps6
  go_wp2
  go_loopg [4] 0 (fun g i wr => i = .int .i64 0 ∧ w = wr)
  case atStart => exact ⟨rfl, rfl⟩
  case round =>
    obtain ⟨rfl, rfl⟩ := hrel
    go_wp2
    go_ret
    exact ⟨rfl, rfl⟩
theorem fits_none (a : Option Addr) (cap : Nat) (w : World) : Calls Try.prog 7 #[.slice a 0 cap] w fun e w' => e = .returned (.bool true) ∧ w' = w := by
  go_enter Try.func7, Try.ntmps7
  go_wp2
  go_loopg [3, 4] 0 (fun g z i wr => z = .int .i64 0 ∧ i = .int .i64 0 ∧ w = wr)
  case atStart => exact ⟨rfl, rfl, rfl⟩
  case round =>
    obtain ⟨rfl, rfl, rfl⟩ := hrel
    go_wp2
    go_ret
    exact ⟨rfl, rfl⟩
set_option maxRecDepth 100000 in
set_option maxHeartbeats 400000 in
theorem core0 (a : Option Addr) (cap : Nat) (w : World) :
    Calls Try.prog 3 #[.slice a 0 cap] w fun e w' => e = .returned (.bool true) ∧ Below w.heap.size w w' := by
  obtain ⟨i9, hi9, hz90, hz91, hz92⟩ := info_parts info9'
  have A6 : Aside (Calls Try.prog 6 #[.slice a 0 cap] w fun e w' => e = .returned (.bool true) ∧ w' = w) := bytes_none a cap w
  have A7 : Aside (Calls Try.prog 7 #[.slice a 0 cap] w fun e w' => e = .returned (.bool true) ∧ w' = w) := fits_none a cap w
  go_enter Try.func3, Try.ntmps3
  go_wp2_with fail
  refine A6.out.mono ?_
  rintro e w' ⟨rfl, rfl⟩
  go_wp2_with fail
  refine A7.out.mono ?_
  rintro e w'' ⟨rfl, rfl⟩
  clear A6 A7
  have heq := fun w => run_eql_map_nil (P := Try.prog) w 24 9 21 none Try.underlying24
  go_upto_block 0 with (at_make; refine wpList_make_own _ rfl _ _ 22 rfl (w''.heap.size) 9 i9 (.string ByteArray.empty) 1 Try.underlying22 hi9 hz90 hz91 _ _ _ 0 rfl rfl rfl (by rw [hz92]; omega) (by unfold maxLen; omega) (by simp) ?_; intro w1 hown1 hgrow1)
  have hM0 : w1.heap[w''.heap.size]? = some (.cells #[.map none] 24 (0, 0)) := by
    have h0 : (w''.alloc (.cells #[.map none] 24)).heap[w''.heap.size]? = some (.cells #[.map none] 24 (0, 0)) := heap_alloc_new w'' _
    rw [hgrow1.block _ (by simp) (by simp)]; exact h0
  have hB0 : Below w''.heap.size w'' w1 := ((Below.refl _ _).alloc (Nat.le_refl _) _).grown hgrow1 (by simp) (by intro k hk; cases hk)
  clear hown1 hgrow1
  have hcm := cell_of_one hM0
  clear hM0
  go_wp2_with fail
  go_loopg [4, 5] 0 (fun g v i wr => v = .slice (some ⟨w''.heap.size + 1, 0, none⟩) 0 0 ∧ i = .int .i64 0 ∧ w1 = wr)
  case atStart => exact ⟨rfl, rfl, rfl⟩
  case round =>
    obtain ⟨rfl, rfl, rfl⟩ := hrel
    go_wp2_with fail
    go_loopg [9] 0 (fun g i wx => i = .int .i64 0 ∧ Below w''.heap.size w'' wx)
    case atStart => exact ⟨rfl, hB0⟩
    case round =>
      clear hB0
      obtain ⟨rfl, hbel⟩ := hrel
      go_wp2
      go_ret
      exact ⟨rfl, hbel⟩
end Go.Proofs.Qxb6603398a
