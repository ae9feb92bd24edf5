/-
  THE WALKS of the length guards (6, 7), of indexString (8) and of number (17, 9).
-/
import Derived.Test.Qxb6603398aRows
import Derived.Test.Qxb6603398aPlain
import Derived.WalkKit
import Derived.WalkSpells
import Derived.WalkLawsBesides
import Derived.OneCell
import Derived.Deep.DeepCutAuto
namespace Go.Proofs.Qxb6603398a
open Go.RowKit Go.Maps Go.WideMaps

theorem law : Keyed Try.prog 9 := string_keyed Try.underlying9
theorem zero21 (w : World) : (zeroValue 21).run Try.prog w = .ok (.int .i32 0) w := by kernel_rfl
theorem ret_bool {a b : Bool} (h : a = b) : Ending.returned (.bool a) = .returned (.bool b) := by rw [h]
theorem vi {k : IntKind} {a b : Int} (h : a = b) : Value.int k a = Value.int k b := by rw [h]

/-! ### the guards: of a slice of strings at an address x -/
/-- What the guard's true answer says. -/
def Small (ss : List ByteArray) (n : Nat) : Prop := n ≤ 1048576 ∧ ∀ i, i < n → (ss.getD i ByteArray.empty).size ≤ 1048576

set_option maxRecDepth 100000 in
set_option maxHeartbeats 400000 in
theorem bytes_any (x : Addr) (n cap : Nat) (ss : List ByteArray) (w : World) (hn : n ≤ maxLen) (hsz : ∀ i, i < n → (ss.getD i ByteArray.empty).size ≤ maxLen) (hcell : ∀ i, i < n → w.cell? (x.add i) = some (.string (ss.getD i ByteArray.empty))) :
    Calls Try.prog 6 #[.slice (some x) n cap] w fun e w' => ∃ r, e = .returned (.bool r) ∧ (r = true → Small ss n) ∧ w' = w := by
  unfold maxLen at hn
  have HC : Aside (∀ i, i < n → w.cell? (x.add i) = some (.string (ss.getD i ByteArray.empty))) := hcell
  have HS : Aside (∀ i, i < n → (ss.getD i ByteArray.empty).size ≤ maxLen) := hsz
  clear hcell hsz
  by_cases hb : n ≤ 1048576
  · go_enter Try.func6, Try.ntmps6
    go_wp2
    go_loopg [3, 4] n (fun g z i wr => ∃ k zn : Nat, k ≤ n ∧ zn ≤ 1048576 ∧ z = .int .i64 zn ∧ i = .int .i64 k ∧ Aside ((∀ j, j < k → (ss.getD j ByteArray.empty).size ≤ 1048576) ∧ n - k ≤ g) ∧ w = wr)
    case atStart => exact ⟨0, n, Nat.zero_le _, hb, rfl, rfl, ⟨fun j hj => absurd hj (Nat.not_lt_zero _), Nat.le_refl _⟩, rfl⟩
    case round =>
      obtain ⟨k, zn, hk, hz, rfl, rfl, hE, rfl⟩ := hrel
      by_cases hlt : k < n
      · have hc := HC.out k hlt
        have hsm := HS.out k hlt
        unfold maxLen at hsm
        obtain ⟨s, hs⟩ : ∃ s, s = ss.getD k ByteArray.empty := ⟨_, rfl⟩
        rw [← hs] at hc hsm
        have HSS : Aside (s = ss.getD k ByteArray.empty) := hs
        clear hs
        by_cases h1 : s.size ≤ 1048576
        · by_cases h2 : zn + s.size ≤ 1048576
          · go_wp2
            go_roundg (n - (k + 1))
            case measure => have := hE.out.2; omega
            case rel => exact ⟨k + 1, zn + s.size, by omega, h2, by go_num, by go_num, ⟨fun j hj => by by_cases e : j = k; (subst e; rw [← HSS.out]; exact h1); exact hE.out.1 j (by omega), Nat.le_refl _⟩, rfl⟩
          · go_wp2
            go_ret
            exact ⟨false, rfl, (fun h => by cases h), rfl⟩
        · go_wp2
          go_ret
          exact ⟨false, rfl, (fun h => by cases h), rfl⟩
      · go_wp2
        go_ret
        exact ⟨true, rfl, fun _ => ⟨hb, fun i hi => hE.out.1 i (by omega)⟩, rfl⟩
  · go_enter Try.func6, Try.ntmps6
    go_wp2
    go_ret
    exact ⟨false, rfl, (fun h => by cases h), rfl⟩
set_option maxRecDepth 100000 in
set_option maxHeartbeats 400000 in
theorem fits_any (x : Addr) (n cap : Nat) (ss : List ByteArray) (w : World) (hn : n ≤ 4096) (hsm : Small ss n) (hcell : ∀ i, i < n → w.cell? (x.add i) = some (.string (ss.getD i ByteArray.empty))) :
    Calls Try.prog 7 #[.slice (some x) n cap] w fun e w' => ∃ r, e = .returned (.bool r) ∧ w' = w := by
  have HC : Aside (∀ i, i < n → w.cell? (x.add i) = some (.string (ss.getD i ByteArray.empty))) := hcell
  have HS : Aside (∀ i, i < n → (ss.getD i ByteArray.empty).size ≤ 1048576) := hsm.2
  clear hcell hsm
  go_enter Try.func7, Try.ntmps7
  go_wp2
  go_loopg [3, 4] n (fun g z i wr => ∃ k zn : Nat, k ≤ n ∧ zn ≤ 1048576 ∧ z = .int .i64 zn ∧ i = .int .i64 k ∧ Aside (n - k ≤ g) ∧ w = wr)
  case atStart => exact ⟨0, 16 * n, Nat.zero_le _, by omega, by go_num, rfl, Nat.le_refl _, rfl⟩
  case round =>
    obtain ⟨k, zn, hk, hz, rfl, rfl, hE, rfl⟩ := hrel
    by_cases hlt : k < n
    · have hc := HC.out k hlt
      have hsm := HS.out k hlt
      generalize ss.getD k ByteArray.empty = s at *
      by_cases h2 : zn + s.size ≤ 1048576
      · go_wp2
        go_roundg (n - (k + 1))
        case measure => have := hE.out; omega
        case rel => exact ⟨k + 1, zn + s.size, by omega, h2, by go_num, by go_num, Nat.le_refl _, rfl⟩
      · go_wp2
        go_ret
        exact ⟨false, rfl, rfl⟩
    · go_wp2
      go_ret
      exact ⟨_, rfl, rfl⟩

/-! ### indexString -/
/-- r is the first place of s in D; or -1, and s is not in D. -/
def Ix (D : List ByteArray) (s : ByteArray) (r : Int) : Prop := (∃ j : Nat, j < D.length ∧ r = j ∧ D.getD j ByteArray.empty = s) ∨ (r = -1 ∧ s ∉ D)
theorem str_eq {s t : ByteArray} (h : (s.toList == t.toList) = true) : s = t := by
  have h2 : s.toList = t.toList := by simpa using h
  rw [ByteArray.toList_eq, ByteArray.toList_eq] at h2
  exact kl_inj (by unfold kl; rw [h2])

set_option maxRecDepth 100000 in
set_option maxHeartbeats 400000 in
theorem index_any (A cap : Nat) (D : List ByteArray) (s : ByteArray) (w : World) (hn : D.length ≤ 4096) (hcell : ∀ i, i < D.length → w.cell? ⟨A, i, none⟩ = some (.string (D.getD i ByteArray.empty))) :
    Calls Try.prog 8 #[.slice (some ⟨A, 0, none⟩) D.length cap, .string s] w fun e w' => ∃ r, e = .returned (.int .i64 r) ∧ Ix D s r ∧ w' = w := by
  have HC : Aside (∀ i, i < D.length → w.cell? ⟨A, i, none⟩ = some (.string (D.getD i ByteArray.empty))) := hcell
  clear hcell
  go_enter Try.func8, Try.ntmps8
  go_wp2
  go_loopg [5] D.length (fun g i wr => ∃ k : Nat, k ≤ D.length ∧ i = .int .i64 k ∧ Aside ((∀ j, j < k → D.getD j ByteArray.empty ≠ s) ∧ D.length - k ≤ g) ∧ w = wr)
  case atStart => exact ⟨0, Nat.zero_le _, rfl, ⟨fun j hj => absurd hj (Nat.not_lt_zero _), Nat.le_refl _⟩, rfl⟩
  case round =>
    obtain ⟨k, hk, rfl, hE, rfl⟩ := hrel
    by_cases hlt : k < D.length
    · have hc := HC.out k hlt
      obtain ⟨t, ht⟩ : ∃ t, t = D.getD k ByteArray.empty := ⟨_, rfl⟩
      rw [← ht] at hc
      have HT : Aside (t = D.getD k ByteArray.empty) := ht
      clear ht
      by_cases he : (t.toList == s.toList) = true
      · go_wp2
        go_ret
        exact ⟨k, rfl, Or.inl ⟨k, hlt, rfl, by rw [← HT.out]; exact str_eq he⟩, rfl⟩
      · have he' : (t.toList == s.toList) = false := by simpa using he
        go_wp2
        go_roundg (D.length - (k + 1))
        case measure => have := hE.out.2; omega
        case rel => exact ⟨k + 1, by omega, by go_num, ⟨fun j hj => by by_cases e : j = k; (subst e; rw [← HT.out]; intro x; rw [x] at he; simp at he); exact hE.out.1 j (by omega), Nat.le_refl _⟩, rfl⟩
    · go_wp2
      go_ret
      refine ⟨-1, rfl, Or.inr ⟨rfl, fun hm => ?_⟩, rfl⟩
      obtain ⟨j, hj, e⟩ := List.getElem_of_mem hm
      exact hE.out.1 j (by omega) (by rw [List.getD_eq_getElem?_getD, List.getElem?_eq_getElem hj]; exact e)

/-! ### number -/
/-- The variable at block M holds the map of the names D. B: all that is written lies from B on. -/
def MapSt (B : Nat) (w : World) (M : Nat) (D : List ByteArray) : Prop :=
  B ≤ M ∧ ((D = [] ∧ w.heap[M]? = some (.cells #[.map none] 24 (0, 0))) ∨
    ∃ b C, B ≤ b ∧ D ≠ [] ∧ w.heap[M]? = some (.cells #[.map (some b)] 24 (0, 0)) ∧ w.ownsMap Try.prog 9 (plainElem Try.prog 21) b D.length C ∧ Good C D)
/-- What number leaves alone: all that lies below B; every block that is neither the variable nor a map. -/
structure Left (B M : Nat) (w w' : World) : Prop where
  bel : Below B w w'
  rows : ∀ k cs t fr, k ≠ M → w.heap[k]? = some (.cells cs t fr) → w'.heap[k]? = some (.cells cs t fr)

theorem Left.trans {B M : Nat} {w w' w'' : World} (h : Left B M w w') (h2 : Left B M w' w'') : Left B M w w'' :=
  ⟨h.bel.trans h2.bel, fun k cs t fr hk hc => h2.rows k cs t fr hk (h.rows k cs t fr hk hc)⟩
theorem not_map {w : World} {b n k : Nat} {C : DataW Unit} {cs : Array Value} {t : TypeId} {fr : Nat × Nat} (hown : w.ownsMap Try.prog 9 (plainElem Try.prog 21) b n C) (hc : w.heap[k]? = some (.cells cs t fr)) : k ≠ b := by
  obtain ⟨es, clock, hb, _⟩ := hown
  intro e; subst e; rw [hb] at hc; cases hc
theorem keep_cells {w w' : World} {b n k : Nat} {C : DataW Unit} {cs : Array Value} {t : TypeId} {fr : Nat × Nat} (hown : w.ownsMap Try.prog 9 (plainElem Try.prog 21) b n C) (hg : w.grownBy w' (some b)) (hc : w.heap[k]? = some (.cells cs t fr)) : w'.heap[k]? = some (.cells cs t fr) := by
  rw [hg.block k (lt_of_block hc) (fun e => not_map hown hc (by simpa using e))]; exact hc
theorem left_map {B M : Nat} {w w' : World} {b n : Nat} {C : DataW Unit} (hown : w.ownsMap Try.prog 9 (plainElem Try.prog 21) b n C) (hg : w.grownBy w' (some b)) (hb : B ≤ b) : Left B M w w' := by
  have hlt : b < w.heap.size := by obtain ⟨es, clock, h, _⟩ := hown; exact lt_of_block h
  exact ⟨(Below.refl _ _).grown hg (by omega) (fun k hk => by cases hk; exact hb), fun k cs t fr _ hc => keep_cells hown hg hc⟩
theorem made_st {B M : Nat} {w : World} (hB : B ≤ M) (hM : w.heap[M]? = some (.cells #[.map none] 24 (0, 0))) :
    ∃ b, B ≤ b ∧ ((w.setCell ⟨M, 0, none⟩ (.map (some w.heap.size))).alloc (.map #[] 0)).heap[M]? = some (.cells #[.map (some b)] 24 (0, 0)) ∧
      ((w.setCell ⟨M, 0, none⟩ (.map (some w.heap.size))).alloc (.map #[] 0)).ownsMap (H := Unit) Try.prog 9 (plainElem Try.prog 21) b 0 (.map []) ∧
      Left B M w ((w.setCell ⟨M, 0, none⟩ (.map (some w.heap.size))).alloc (.map #[] 0)) := by
  have hlt := lt_of_block hM
  have hsz : (w.setCell ⟨M, 0, none⟩ (.map (some w.heap.size))).heap.size = w.heap.size := by simp [World.setCell]
  have hold : ∀ k, k < w.heap.size → ((w.setCell ⟨M, 0, none⟩ (.map (some w.heap.size))).alloc (.map #[] 0)).heap[k]? = (w.setCell ⟨M, 0, none⟩ (.map (some w.heap.size))).heap[k]? := fun k hk => heap_alloc_old _ _ (by rw [hsz]; exact hk)
  refine ⟨w.heap.size, by omega, ?_, ?_, ?_, ?_⟩
  · rw [hold M hlt]; exact one_setCell hM
  · have := World.ownsMap_made (H := Unit) (w.setCell ⟨M, 0, none⟩ (.map (some w.heap.size))) Try.prog 9 (plainElem Try.prog 21)
    rw [hsz] at this; exact this
  · exact ((Below.refl _ _).setCell hB _).alloc (by rw [hsz]; omega) _
  · intro k cs t fr hk hc
    rw [hold k (lt_of_block hc), heap_setCell_other _ _ _ _ hk]; exact hc
theorem wf_small (n : Nat) (h : n ≤ 4096) : (Lit.int .i32 (n : Int)).wf = true := WalkArith.wf_i32 (by omega)
theorem same_lit {X : DataW Unit} {a b : Int} (h1 : X = .lit (.int .i32 b)) (h2 : X = .lit (.int .i32 a)) : a = b := by
  rw [h1] at h2; simpa using h2.symm
theorem ret_num {a b : Int} {x y : Bool} (h : a = b) (h2 : x = y) : Ending.returned (.tuple #[.int .i32 a, .bool x]) = .returned (.tuple #[.int .i32 b, .bool y]) := by rw [h, h2]
theorem found (M : Nat) (B : Nat) (D : List ByteArray) (s : ByteArray) (j d : Nat) (w : World) (hs : s.size ≤ 1048576) (hst : MapSt B w M D) (hj : j < D.length) (hjs : D.getD j ByteArray.empty = s) :
    Calls Try.prog 17 #[.pointer (some ⟨M, 0, none⟩), .string s, .int .i64 d] w fun e w' => e = .returned (.tuple #[.int .i32 j, .bool true]) ∧ w' = w := by
  obtain ⟨hB, ⟨rfl, _⟩ | ⟨b, C, hb, hne, hM, hown, hgood⟩⟩ := hst
  · simp at hj
  have hc := cell_of_one hM
  have hpl : Aside (C.atKey (kl s) (.lit (.int .i32 0)) = .lit (.int .i32 j)) := by rw [← hjs]; exact hgood.place j hj
  have hh : Maps.has C (.string s.data.toList) = true := (hgood.has s).2 (by rw [← hjs, List.getD_eq_getElem?_getD, List.getElem?_eq_getElem hj]; exact List.getElem_mem _)
  have hkey := keyOf_string_mk (P := Try.prog) Try.underlying9 (s := s) (by unfold maxLen; omega)
  clear hgood hjs
  go_enter Try.func17, Try.ntmps17
  go_wp2_with (at_lookup; refine wpList_lookup_own_ok_int _ rfl _ _ 24 rfl 9 21 .i32 law Try.underlying24 Try.underlying21 (zero21 _) b _ C rfl hown _ _ rfl hkey ?_; intro c hat hwc; have hcj : Aside (c = (j : Int)) := same_lit hpl.out hat; clear hat)
  go_ret2
  exact ⟨ret_num hcj.out rfl, rfl⟩

set_option maxHeartbeats 400000 in
theorem fresh_nil (M : Nat) (B : Nat) (s : ByteArray) (w : World) (hs : s.size ≤ 1048576) (hB : B ≤ M) (hM : w.heap[M]? = some (.cells #[.map none] 24 (0, 0))) :
    Calls Try.prog 17 #[.pointer (some ⟨M, 0, none⟩), .string s, .int .i64 0] w fun e w' => e = .returned (.tuple #[.int .i32 0, .bool false]) ∧ MapSt B w' M [s] ∧ Left B M w w' := by
  have hc := cell_of_one hM
  have hf := free_of_one hM
  have hlt := lt_of_block hM
  have hkey := keyOf_string_mk (P := Try.prog) Try.underlying9 (s := s) (by unfold maxLen; omega)
  have hlk := fun w => Maps.look_nil (P := Try.prog) (w := w) true law Try.underlying24 (zero21 w) hkey
  have heq := fun w => run_eql_map_nil (P := Try.prog) w 24 9 21 none Try.underlying24
  have hmm := @run_makeMap Try.prog
  go_enter Try.func17, Try.ntmps17
  go_upto_if 23 with fail
  go_cut [] from 24 to 26 (fun wx => ∃ b, B ≤ b ∧ wx.heap[M]? = some (.cells #[.map (some b)] 24 (0, 0)) ∧ wx.ownsMap (H := Unit) Try.prog 9 (plainElem Try.prog 21) b 0 (.map []) ∧ Left B M w wx)
  case first =>
    go_wp2
    go_meet
    exact made_st hB hM
  case rest =>
    obtain ⟨b, hb, hM2, hown, hleft⟩ := hcut
    have hc2 := cell_of_one hM2
    clear hc hf hlt hM
    go_wp2_with (at_mapUpdate; refine wpList_mapUpdate_own _ rfl _ _ _ 24 rfl 9 21 law Try.underlying24 _ b 0 _ rfl hown (by unfold maxLen; omega) _ _ _ rfl rfl hkey _ [] (plainElem_int Try.underlying21 (by decide)) ?_; intro w1 hown1 hgrow1)
    go_ret2
    have hleft1 := left_map (M := M) hown hgrow1 hb
    refine ⟨rfl, ⟨hB, Or.inr ⟨b, _, hb, by simp, keep_cells hown hgrow1 hM2, hown1, good_snoc good_nil (by simp)⟩⟩, hleft.trans hleft1⟩

set_option maxHeartbeats 400000 in
theorem fresh_some (M : Nat) (B : Nat) (D : List ByteArray) (s : ByteArray) (w : World) (hs : s.size ≤ 1048576) (hD : D.length ≤ 4096) (hst : MapSt B w M D) (hne : D ≠ []) (hnot : s ∉ D) :
    Calls Try.prog 17 #[.pointer (some ⟨M, 0, none⟩), .string s, .int .i64 D.length] w fun e w' => e = .returned (.tuple #[.int .i32 D.length, .bool false]) ∧ MapSt B w' M (D ++ [s]) ∧ Left B M w w' := by
  obtain ⟨hB, ⟨rfl, _⟩ | ⟨b, C, hb, _, hM, hown, hgood⟩⟩ := hst
  · exact absurd rfl hne
  have hc := cell_of_one hM
  have hh : Maps.has C (.string s.data.toList) = false := by
    cases e : Maps.has C (.string s.data.toList) with
    | false => rfl
    | true => exact absurd ((hgood.has s).1 e) hnot
  have hkey := keyOf_string_mk (P := Try.prog) Try.underlying9 (s := s) (by unfold maxLen; omega)
  have heq := fun w => run_eql_map_nil (P := Try.prog) w 24 9 21 (some b) Try.underlying24
  have HG : Aside (Good C D ∧ s ∉ D ∧ D ≠ []) := ⟨hgood, hnot, hne⟩
  clear hgood hnot hne
  go_enter Try.func17, Try.ntmps17
  go_wp2_with (first | (at_lookup; refine wpList_lookup_own_ok_int _ rfl _ _ 24 rfl 9 21 .i32 law Try.underlying24 Try.underlying21 (zero21 _) b _ C rfl hown _ _ rfl hkey ?_; intro c hat hwc; clear hat) | (at_mapUpdate; refine wpList_mapUpdate_own _ rfl _ _ _ 24 rfl 9 21 law Try.underlying24 _ b _ _ rfl hown (by unfold maxLen; omega) _ _ _ rfl rfl hkey _ [] (plainElem_int Try.underlying21 (wf_small _ (by omega))) ?_; intro w1 hown1 hgrow1))
  go_ret2
  have hleft1 := left_map (M := M) hown hgrow1 hb
  have hlen : (D ++ [s]).length = D.length + 1 := by simp
  refine ⟨rfl, ⟨hB, Or.inr ⟨b, _, hb, by simp, keep_cells hown hgrow1 hM, by rw [hlen]; exact hown1, good_snoc HG.out.1 HG.out.2.1⟩⟩, hleft1⟩

/-- A name that is not known yet. -/
theorem fresh (M : Nat) (B : Nat) (D : List ByteArray) (s : ByteArray) (w : World) (hs : s.size ≤ 1048576) (hD : D.length ≤ 4096) (hst : MapSt B w M D) (hnot : s ∉ D) :
    Calls Try.prog 17 #[.pointer (some ⟨M, 0, none⟩), .string s, .int .i64 D.length] w fun e w' => e = .returned (.tuple #[.int .i32 D.length, .bool false]) ∧ MapSt B w' M (D ++ [s]) ∧ Left B M w w' := by
  by_cases hne : D = []
  · subst hne
    obtain ⟨hB, ⟨_, hM⟩ | ⟨b, C, _, hn, _⟩⟩ := hst
    · exact fresh_nil M B s w hs hB hM
    · exact absurd rfl hn
  · exact fresh_some M B D s w hs hD hst hne hnot
/-! ### ZZNumber: the same, called through -/
theorem zz_found (M : Nat) (B : Nat) (D : List ByteArray) (s : ByteArray) (j d : Nat) (w : World) (hs : s.size ≤ 1048576) (hst : MapSt B w M D) (hj : j < D.length) (hjs : D.getD j ByteArray.empty = s) :
    Calls Try.prog 9 #[.pointer (some ⟨M, 0, none⟩), .string s, .int .i64 d] w fun e w' => e = .returned (.tuple #[.int .i32 j, .bool true]) ∧ w' = w := by
  have H : Aside (Calls Try.prog 17 #[.pointer (some ⟨M, 0, none⟩), .string s, .int .i64 d] w fun e w' => e = .returned (.tuple #[.int .i32 j, .bool true]) ∧ w' = w) := found M B D s j d w hs hst hj hjs
  clear hst hjs
  go_enter Try.func9, Try.ntmps9
  go_wp2_with fail
  refine H.out.mono ?_
  rintro e w' ⟨rfl, rfl⟩
  go_wp2
  go_ret2
  exact ⟨rfl, rfl⟩
theorem zz_fresh (M : Nat) (B : Nat) (D : List ByteArray) (s : ByteArray) (w : World) (hs : s.size ≤ 1048576) (hD : D.length ≤ 4096) (hst : MapSt B w M D) (hnot : s ∉ D) :
    Calls Try.prog 9 #[.pointer (some ⟨M, 0, none⟩), .string s, .int .i64 D.length] w fun e w' => e = .returned (.tuple #[.int .i32 D.length, .bool false]) ∧ MapSt B w' M (D ++ [s]) ∧ Left B M w w' := by
  have H : Aside (Calls Try.prog 17 #[.pointer (some ⟨M, 0, none⟩), .string s, .int .i64 D.length] w fun e w' => e = .returned (.tuple #[.int .i32 D.length, .bool false]) ∧ MapSt B w' M (D ++ [s]) ∧ Left B M w w') := fresh M B D s w hs hD hst hnot
  clear hst hnot
  go_enter Try.func9, Try.ntmps9
  go_wp2_with fail
  refine H.out.mono ?_
  rintro e w' ⟨rfl, h1, h2⟩
  go_wp2
  go_ret2
  exact ⟨rfl, h1, h2⟩
end Go.Proofs.Qxb6603398a
