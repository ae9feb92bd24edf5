/-
  THE WALKS of zzIota (10), zzLess (19) and zzMergeSort (9).
-/
import Derived.Test.Qxb6604637aCloneWalk
import Derived.Test.Qxb6604637aSortPlain
import Derived.BigQuiet
import Derived.Deep.QuietTactic
namespace Go.Proofs.Qxb6604637a
open Go.RowKit

theorem info3' : (Try.prog.info? 3).map (fun i => (i.zero, i.size, i.bytes)) = some (some (.int .i64 0), 1, 8) := by kernel_rfl
theorem size3 : (Try.prog.info? 3).map (·.size) = some 1 := by kernel_rfl

/-- A row of indices at r. -/
def RowI (w : World) (r : Option Addr) (xs : List Nat) : Prop := ∀ j, j < xs.length → ∃ y, r = some y ∧ w.cell? (y.add j) = some (.int .i64 (xs.getD j 0 : Nat))
theorem RowI.below {w w' : World} {r : Option Addr} {xs : List Nat} (h : RowI w r xs) (hb : Below w.heap.size w w') : RowI w' r xs := fun j hj => by
  obtain ⟨y, e, hc⟩ := h j hj
  exact ⟨y, e, (hb.cell (p := y.add j) (block_lt_of_cell hc)).trans hc⟩
theorem RowI.drewN {w : World} {r : Option Addr} {xs : List Nat} (h : RowI w r xs) (n : Nat) : RowI (w.drewN n) r xs := h
theorem RowAt.drewN {w : World} {r : Option Addr} {xs : List ByteArray} (h : RowAt w r xs) (n : Nat) : RowAt (w.drewN n) r xs := h

set_option maxRecDepth 100000 in
theorem less_any (ks : List ByteArray) (y : Addr) (kc i j : Nat) (w : World) (hi : i < ks.length) (hj : j < ks.length) (hr : RowAt w (some y) ks) :
    Calls Try.prog 19 #[.int .i64 i, .int .i64 j, .slice (some y) ks.length kc, .slice none 0 0] w fun e w' => e = .returned (.bool (less ks i j)) ∧ ∃ n, w' = w.drewN n := by
  obtain ⟨y', e, hc1⟩ := hr i hi
  cases e
  obtain ⟨y', e, hc2⟩ := hr j hj
  cases e
  have HL : Aside (less ks i j = Op.bytesLess (ks.getD i ByteArray.empty).toList (ks.getD j ByteArray.empty).toList) := rfl
  generalize ks.getD i ByteArray.empty = s at *
  generalize ks.getD j ByteArray.empty = t at *
  have hi' : (i : Int) < (ks.length : Int) := by omega
  have hj' : (j : Int) < (ks.length : Int) := by omega
  clear hr
  have heq := fun w => Lib.run_eql_slice_nil (P := Try.prog) w 25 9 none 0 0 0 0 Try.underlying25
  by_cases hst : s.toList = t.toList
  · have h1 : (s.toList == t.toList) = true := by simp [hst]
    have HH : Aside (s.toList = t.toList) := hst
    clear hst
    go_enter Try.func19, Try.ntmps19
    go_wp2
    go_quiet (fail)
    go_wp2
    go_ret
    exact ⟨by rw [HL.out, HH.out, bytesLess_eq]; simp [List.lt_irrefl], _, rfl⟩
  · have h1 : (s.toList == t.toList) = false := by simp [hst]
    clear hst
    go_enter Try.func19, Try.ntmps19
    go_wp2
    go_quiet (fail)
    go_wp2
    go_quiet (fail)
    go_wp2
    go_ret
    exact ⟨by rw [HL.out]; rfl, _, by rw [World.drewN_drewN]⟩

set_option maxRecDepth 100000 in
theorem iota_any (n : Nat) (w : World) (hn : n ≤ 1048576) :
    Calls Try.prog 10 #[.int .i64 n] w fun e w' => e = .returned (.slice (some ⟨w.heap.size, 0, none⟩) n n) ∧ RowI w' (some ⟨w.heap.size, 0, none⟩) (List.range n) ∧ Below w.heap.size w w' := by
  obtain ⟨i3, hi3, hz30, hz31, hz32⟩ := info_parts info3'
  go_enter Try.func10, Try.ntmps10
  go_wp2_with (at_make; refine wpList_make_full _ rfl (.tmp 5) (.tmp 5) 27 rfl w.heap.size 3 i3 (.int .i64 0) 1 Try.underlying27 hi3 hz30 hz31 _ _ _ _ n rfl rfl rfl rfl (by rw [hz32]; omega) (by unfold maxLen; omega) (Nat.le_refl _) ?_; intro w1 hown1 hgrow1)
  have hb1 : Below w.heap.size w w1 := (Below.refl _ _).grown hgrow1 (Nat.le_refl _) (by intro k hk; cases hk)
  clear hgrow1
  go_loopg [4] n (fun g i wr => ∃ (k : Nat) (cs : List Value), k ≤ n ∧ i = .int .i64 k ∧ Aside (n - k ≤ g ∧ ∀ j, j < k → cs[j]? = some (.int .i64 j)) ∧ wr.ownsRow w.heap.size 3 1 (.slice (some ⟨w.heap.size, 0, none⟩) n n) n cs ∧ Below w.heap.size w wr)
  case atStart => exact ⟨0, _, Nat.zero_le _, rfl, ⟨Nat.le_refl _, fun j h => absurd h (Nat.not_lt_zero _)⟩, hown1, hb1⟩
  case round =>
    clear hown1 hb1
    obtain ⟨k, cs, hk, rfl, hE, hown, hbel⟩ := hrel
    by_cases hlt : k < n
    · have hA := (hown.lt _ rfl).2
      have hcA := hown.cellAt k (by omega)
      have hfA := hown.frozenAt k
      have hcl : cs.length = n := by have := hown.1; omega
      rw [List.getElem?_eq_getElem (by omega)] at hcA
      go_wp2
      go_roundg (n - (k + 1))
      case measure => have := hE.out.1; omega
      case rel =>
        refine ⟨k + 1, _, by omega, by go_num, ⟨Nat.le_refl _, fun j hj => ?_⟩, (hown.stored k (.int .i64 k)).1, hbel.setCell (Nat.le_refl _) _⟩
        by_cases e : j = k
        · subst e; rw [List.getElem?_set_self (by omega)]
        · rw [List.getElem?_set_ne (by omega)]; exact hE.out.2 j (by omega)
    · obtain rfl : k = n := by omega
      go_wp2
      go_ret
      refine ⟨rfl, fun j hj => ⟨_, rfl, ?_⟩, hbel⟩
      rw [List.length_range] at hj
      rw [hown.cells rfl j _ (hE.out.2 j hj)]
      simp [hj]

theorem RowI.take {w : World} {y : Addr} {xs : List Nat} (h : RowI w (some y) xs) (m : Nat) : RowI w (some y) (xs.take m) := fun j hj => by
  rw [List.length_take] at hj
  obtain ⟨y', e, hc⟩ := h j (by omega)
  refine ⟨y', e, ?_⟩
  rw [hc]
  simp [List.getD_eq_getElem?_getD, show j < m by omega]
theorem RowI.drop {w : World} {y : Addr} {xs : List Nat} (h : RowI w (some y) xs) (m : Nat) : RowI w (some (y.add m)) (xs.drop m) := fun j hj => by
  rw [List.length_drop] at hj
  obtain ⟨y', e, hc⟩ := h (m + j) (by omega)
  cases e
  refine ⟨_, rfl, ?_⟩
  rw [Addr.add_add, hc]
  simp [List.getD_eq_getElem?_getD]
/-- Its cells, as a list of values. -/
def iv (xs : List Nat) : List Value := xs.map (fun n => Value.int .i64 (n : Nat))
theorem iv_len (xs : List Nat) : (iv xs).length = xs.length := by simp [iv]
theorem iv_one (xs : List Nat) : ∀ v ∈ iv xs, v.oneCell' = true := by intro v hv; obtain ⟨z, _, rfl⟩ := List.mem_map.1 hv; rfl
theorem RowI.vals {w : World} {y : Addr} {xs : List Nat} (h : RowI w (some y) xs) : ∀ j v, (iv xs)[j]? = some v → w.cell? (y.add j) = some v := fun j v hv => by
  have hj : j < xs.length := by
    rcases Nat.lt_or_ge j xs.length with h | h
    · exact h
    · rw [List.getElem?_eq_none (by rw [iv_len]; exact h)] at hv; cases hv
  obtain ⟨y', e, hc⟩ := h j hj
  cases e
  rw [hc, ← hv]
  simp [iv, hj]
theorem RowI.of_own {w : World} {base g n cap : Nat} {xs : List Nat} (h : w.ownsRow base 3 1 (.slice (some ⟨g, 0, none⟩) n cap) n (iv xs)) : RowI w (some ⟨g, 0, none⟩) xs := fun j hj =>
  ⟨_, rfl, h.cells rfl j _ (by simp [iv, hj])⟩

set_option maxRecDepth 100000 in
set_option maxHeartbeats 1600000 in
theorem sort_small (ks : List ByteArray) (ky : Option Addr) (kc : Nat) (y : Addr) (xs : List Nat) (cap : Nat) (w : World) (hn : xs.length ≤ 1) (hr : RowI w (some y) xs) :
    Calls Try.prog 9 #[.slice (some y) xs.length cap, .slice ky ks.length kc, .slice none 0 0] w fun e w' => ∃ g ys, e = .returned (.slice (some ⟨g, 0, none⟩) xs.length xs.length) ∧ w.heap.size ≤ g ∧ RowI w' (some ⟨g, 0, none⟩) ys ∧ Srt ks xs ys ∧ Below w.heap.size w w' := by
  obtain ⟨i3, hi3, hz30, hz31, hz32⟩ := info_parts info3'
  have HR : Aside (RowI w (some y) xs) := hr
  have hn' : (xs.length : Int) ≤ 1 := by omega
  clear hr
  go_enter Try.func9, Try.ntmps9
  go_wp2_with (first | (at_make; refine wpList_make_full _ rfl (.tmp 18) (.tmp 18) 27 rfl w.heap.size 3 i3 (.int .i64 0) 1 Try.underlying27 hi3 hz30 hz31 _ _ _ _ xs.length rfl rfl rfl rfl (by rw [hz32]; omega) (by unfold maxLen; omega) (Nat.le_refl _) ?_; intro w2 hown2 hgrow2; have hb2 := (Below.refl w.heap.size w).grown hgrow2 (Nat.le_refl _) (by intro k hk; cases hk); obtain ⟨cur, hgc, hcl⟩ := own_cells' hown2; clear hown2 hgrow2) | (refine wpList_copy_splice rfl (.tmp 20) (.tmp 21) 27 27 rfl 3 Try.underlying27 size3 (some ⟨w.heap.size, 0, none⟩) (some y) xs.length xs.length xs.length cap rfl rfl w.heap.size 0 cur 3 hgc (iv xs) (by rw [iv_len]; exact (Nat.min_self _).symm) (fun _ => ⟨rfl, y, rfl, (HR.out.below hb2).vals⟩) (by rw [iv_len]; omega) (iv_one xs) w.heap.size w hb2 (Nat.le_refl _) ?_; intro w3 hcells hb3))
  go_ret
  refine ⟨w.heap.size, xs, rfl, Nat.le_refl _, fun j hj => ⟨_, rfl, ?_⟩, srt_small ks xs hn, hb3⟩
  rw [Addr.add_mid, Nat.zero_add, cell_of_row _ _ _ _ _ _ hcells.out]
  have e : splice cur 0 (iv xs) = iv xs := by simp [splice, iv_len, hcl]
  rw [e]
  simp [iv, hj]

theorem lit_cell (w : World) (v : Value) (e : TypeId) : ∀ j u, [v][j]? = some u → (w.alloc (.cells #[v] e)).cell? ((⟨w.heap.size, 0, none⟩ : Addr).add j) = some u := by
  intro j u hu
  rw [Addr.add_mid, Nat.zero_add, cell_of_row _ _ _ _ _ _ (heap_alloc_new w _)]
  rw [← hu]; simp
theorem vals_from {w : World} {g n i : Nat} {xs : List Nat} (hl : xs.length = n) (h : RowI w (some ⟨g, 0, none⟩) xs) {ao : Option Addr} (hao : ¬ n = i → ao = some ⟨g, i, none⟩) : ∀ ad, ao = some ad → ∀ t u, (iv (xs.drop i))[t]? = some u → w.cell? (ad.add t) = some u := by
  intro ad had t u hu
  have ht : t < n - i := by
    have := (List.getElem?_eq_some_iff.1 hu).1
    simpa [iv, hl] using this
  rw [hao (by omega)] at had
  obtain rfl := Option.some.inj had
  have := (h.drop i).vals t u hu
  rwa [Addr.add_mid, Nat.zero_add] at this
theorem RowI.grown {w w' : World} {g b : Nat} {xs : List Nat} (h : RowI w (some ⟨g, 0, none⟩) xs) (hg : w.grownBy w' (some b)) (hne : g ≠ b) : RowI w' (some ⟨g, 0, none⟩) xs := fun j hj => by
  obtain ⟨y, e, hc⟩ := h j hj
  cases e
  refine ⟨_, rfl, hg.cell hc ?_⟩
  rw [Addr.add_mid]; intro e; exact hne (Option.some.inj e)
/-- What zzMergeSort is to do at xs, whatever the world. -/
def Sorts (ks : List ByteArray) (kr : Addr) (kc : Nat) (xs : List Nat) : Prop := ∀ (y : Addr) (cap : Nat) (w : World), xs.length ≤ cap → RowI w (some y) xs → RowAt w (some kr) ks →
    Calls Try.prog 9 #[.slice (some y) xs.length cap, .slice (some kr) ks.length kc, .slice none 0 0] w fun e w' => ∃ g ys, e = .returned (.slice (some ⟨g, 0, none⟩) xs.length xs.length) ∧ w.heap.size ≤ g ∧ RowI w' (some ⟨g, 0, none⟩) ys ∧ Srt ks xs ys ∧ Below w.heap.size w w'

set_option maxRecDepth 100000 in
set_option maxHeartbeats 3200000 in
theorem sort_step (ks : List ByteArray) (kr : Addr) (kc : Nat) (xs : List Nat) (hn : 2 ≤ xs.length) (hn2 : xs.length ≤ 1048576) (hup : xs.Pairwise (· < ·)) (hks : ∀ a ∈ xs, a < ks.length)
    (ihl : Sorts ks kr kc (xs.take (xs.length / 2))) (ihr : Sorts ks kr kc (xs.drop (xs.length / 2))) : Sorts ks kr kc xs := by
  intro y cap w hcap hr hk
  obtain ⟨i3, hi3, hz30, hz31, hz32⟩ := info_parts info3'
  obtain ⟨n, hnn⟩ : ∃ n, n = xs.length := ⟨_, rfl⟩
  obtain ⟨m, hm⟩ : ∃ m, m = n / 2 := ⟨_, rfl⟩
  have hm1 : 1 ≤ m := by omega
  have hmn : m < n := by omega
  have hmc : m < cap := by omega
  have hq : ((n : Int).tdiv 2) = (m : Int) := by rw [Int.tdiv_eq_ediv_of_nonneg (by omega)]; omega
  have hltl : (xs.take m).length = m := by rw [List.length_take]; omega
  have hltr : (xs.drop m).length = n - m := by rw [List.length_drop, hnn]
  have IHL := ihl y cap w (by rw [List.length_take]; omega) (hr.take _) hk
  rw [← hnn, ← hm, hltl] at IHL
  have IHR : Aside (∀ w', Below w.heap.size w w' → _) := fun w' (hb : Below w.heap.size w w') => ihr (y.add m) (cap - m) w' (by rw [List.length_drop, ← hnn, ← hm]; omega) (by rw [← hnn, ← hm]; exact (hr.drop m).below hb) (hk.below hb)
  rw [← hnn, ← hm, hltr] at IHR
  rw [← hnn]
  have HK : Aside (RowAt w (some kr) ks) := hk
  have HX : Aside (n = xs.length ∧ m = n / 2 ∧ (xs.take m).length = m ∧ (xs.drop m).length = n - m) := ⟨hnn, hm, hltl, hltr⟩
  have HL1 : Aside _ := IHL
  clear hr hk hltl hltr ihl ihr hcap hn IHL
  rw [← hnn] at hn2
  clear hnn hm
  go_enter Try.func9, Try.ntmps9
  go_wp2_with (first
    | (go_at_call 9; refine Calls.mono HL1.out ?_; rintro e w1 ⟨gl, L, rfl, hgl, hrl, hsl, hb1⟩; clear HL1)
    | (go_at_call 9; refine Calls.mono (IHR.out w1 hb1) ?_; rintro e w2 ⟨gr, R, rfl, hgr, hrr, hsr, hb2⟩; clear IHR)
    | (at_make; refine wpList_make_own _ rfl _ _ 27 rfl w2.heap.size 3 i3 (.int .i64 0) 1 Try.underlying27 hi3 hz30 hz31 _ _ _ n rfl rfl (by omega) (by rw [hz32]; omega) (by unfold maxLen; omega) (Nat.le_refl _) ?_; intro w3 hown3 hgrow3))
  have hb3 : Below w2.heap.size w2 w3 := (Below.refl _ _).grown hgrow3 (Nat.le_refl _) (by intro k hk; cases hk)
  have hb12 : Below w.heap.size w w2 := hb1.trans (hb2.mono hb1.size)
  have hLl : L.length = m := by rw [hsl.1.length_eq]; exact HX.out.2.2.1
  have hRl : R.length = n - m := by rw [hsr.1.length_eq]; exact HX.out.2.2.2
  have HRL : Aside (RowI w2 (some ⟨gl, 0, none⟩) L) := hrl.below hb2
  have HRR : Aside (RowI w2 (some ⟨gr, 0, none⟩) R) := hrr
  have hgrl : gr < w2.heap.size := by
    obtain ⟨y1, e, hc⟩ := hrr 0 (by omega)
    cases e
    exact block_lt_of_cell hc
  have HK2 : Aside (RowAt w2 (some kr) ks) := HK.out.below hb12
  have HLT : Aside (∀ a b, a ∈ L → b ∈ R → a < b ∧ a < ks.length ∧ b < ks.length) := fun a b ha hb => ⟨srt_apart m hup hsl hsr a b ha hb, hks a (List.mem_of_mem_take (hsl.1.mem_iff.1 ha)), hks b (List.mem_of_mem_drop (hsr.1.mem_iff.1 hb))⟩
  have HT : Aside (Srt ks xs (mrg ks L R)) := srt_merge m hsl hsr
  have HB : Aside (Below w.heap.size w w2) := hb12
  have HS : Aside (w.heap.size ≤ w2.heap.size) := hb12.size
  clear hgrow3 hrl hrr HK hup hks hsl hsr hb1 hb2 hb12 HX hgl hgr
  go_loopg [11, 12, 13] (m + (n - m)) (fun g out si sj wr => ∃ (i j : Nat) (zs : List Nat), i ≤ m ∧ j ≤ n - m ∧ si = .int .i64 i ∧ sj = .int .i64 j ∧ out = .slice (some ⟨w2.heap.size, 0, none⟩) (i + j) n ∧
      wr.ownsRow w2.heap.size 3 1 (.slice (some ⟨w2.heap.size, 0, none⟩) (i + j) n) (i + j) (iv zs) ∧ Aside (zs ++ mrg ks (L.drop i) (R.drop j) = mrg ks L R ∧ (m - i) + (n - m - j) ≤ g) ∧ Below w2.heap.size w2 wr)
  case atStart => exact ⟨0, 0, [], Nat.zero_le _, Nat.zero_le _, rfl, rfl, rfl, hown3, ⟨by simp, by omega⟩, hb3⟩
  case round =>
    clear hown3 hb3
    obtain ⟨i, j, zs, hi, hj, rfl, rfl, rfl, hown, hE, hbel⟩ := hrel
    by_cases hin : i < m ∧ j < n - m
    · obtain ⟨hil, hjl⟩ := hin
      obtain ⟨y1, e, hcl⟩ := (HRL.out.below hbel) i (by omega)
      cases e
      obtain ⟨y1, e, hcr⟩ := (HRR.out.below hbel) j (by omega)
      cases e
      rw [Addr.add_mid, Nat.zero_add] at hcl hcr
      have hmL : L.getD i 0 ∈ L := by rw [List.getD_eq_getElem?_getD, List.getElem?_eq_getElem (by omega)]; exact List.getElem_mem _
      have hmR : R.getD j 0 ∈ R := by rw [List.getD_eq_getElem?_getD, List.getElem?_eq_getElem (by omega)]; exact List.getElem_mem _
      obtain ⟨hab, hak, hbk⟩ := HLT.out _ _ hmL hmR
      have HLS : Aside (∀ wz : World, (∃ q, wz = wr.drewN q) → _) := fun wz (hq : ∃ q, wz = wr.drewN q) => less_any ks kr kc (R.getD j 0) (L.getD i 0) wz hbk hak (by obtain ⟨q, rfl⟩ := hq; exact (HK2.out.below hbel).drewN q)
      rw [less_le ks hab] at HLS
      have HSR : Aside _ := @step_r ks L R zs (mrg ks L R) i j hE.out.1 (by omega) (by omega)
      have HSL : Aside _ := @step_l ks L R zs (mrg ks L R) i j hE.out.1 (by omega) (by omega)
      clear hmL hmR
      generalize L.getD i 0 = a at *
      generalize R.getD j 0 = b at *
      clear hab hak hbk
      have hil' : (i : Int) < (m : Int) := by omega
      have hjl' : (j : Int) < ((n - m : Nat) : Int) := by omega
      cases hle : le ks a b
      · rw [hle] at HLS HSR HSL
        go_wp2_with fail
        go_quiet ((go_at_call 19; exact Calls.quiet_of (HLS.out _ ⟨_, rfl⟩)))
        go_wp2_with (at_builtin; refine wpList_append_fits _ rfl (.tmp 63) (.tmp 68) 27 rfl w2.heap.size 3 i3 1 Try.underlying27 hi3 hz31 w2.heap.size (i + j) n _ rfl (World.ownsRow.alloc (w := wr.drewN nq) hown _) ⟨wr.heap.size, 0, none⟩ 1 1 [.int .i64 b] rfl rfl (lit_cell (wr.drewN nq) _ 3) (by intro u hu; simp at hu; subst hu; rfl) (by omega) ?_; intro w4 hown4 hgrow4)
        go_roundg (m - i + (n - m - (j + 1)))
        case measure => have := hE.out.2; omega
        case rel => exact ⟨i, j + 1, zs ++ [b], hi, by omega, rfl, by go_num, rfl, by simpa [iv, Nat.add_assoc] using hown4, ⟨HSR.out trivial, Nat.le_refl _⟩, ((hbel.trans ⟨rfl, rfl, rfl, Nat.le_refl _, fun _ _ => rfl⟩ : Below w2.heap.size w2 (wr.drewN nq)).alloc hbel.size _).grown hgrow4 (by simp; have := hbel.size; omega) (fun k hk => by cases hk; exact Nat.le_refl _)⟩
      · rw [hle] at HLS HSR HSL
        go_wp2_with fail
        go_quiet ((go_at_call 19; exact Calls.quiet_of (HLS.out _ ⟨_, rfl⟩)))
        go_wp2_with (at_builtin; refine wpList_append_fits _ rfl (.tmp 72) (.tmp 77) 27 rfl w2.heap.size 3 i3 1 Try.underlying27 hi3 hz31 w2.heap.size (i + j) n _ rfl (World.ownsRow.alloc (w := wr.drewN nq) hown _) ⟨wr.heap.size, 0, none⟩ 1 1 [.int .i64 a] rfl rfl (lit_cell (wr.drewN nq) _ 3) (by intro u hu; simp at hu; subst hu; rfl) (by omega) ?_; intro w4 hown4 hgrow4)
        go_roundg (m - (i + 1) + (n - m - j))
        case measure => have := hE.out.2; omega
        case rel => exact ⟨i + 1, j, zs ++ [a], by omega, hj, by go_num, rfl, by rw [Nat.add_right_comm], by rw [Nat.add_right_comm]; simpa [iv] using hown4, ⟨HSL.out trivial, Nat.le_refl _⟩, ((hbel.trans ⟨rfl, rfl, rfl, Nat.le_refl _, fun _ _ => rfl⟩ : Below w2.heap.size w2 (wr.drewN nq)).alloc hbel.size _).grown hgrow4 (by simp; have := hbel.size; omega) (fun k hk => by cases hk; exact Nat.le_refl _)⟩
    · have hend : i = m ∨ (i < m ∧ j = n - m) := by omega
      have HEND : Aside _ := step_end hE.out.1 (by omega)
      have hCL := HRL.out.below hbel
      have hCR := HRR.out.below hbel
      rcases hend with h | ⟨h1, h2⟩
      · have hdi : ¬ i < m := by omega
        clear h hin
        go_wp2_with (first
          | (at_builtin; refine wpList_append_fits_any _ rfl (.tmp 81) (.tmp 84) 27 rfl w2.heap.size 3 i3 1 Try.underlying27 hi3 hz31 w2.heap.size (i + j) n _ rfl hown _ (m - i) _ (iv (L.drop i)) rfl (by simp [iv, hLl]) (by intro h; first | cases h | (split at h <;> cases h)) (vals_from hLl hCL (by intro h; first | rfl | (exfalso; omega) | simp [h])) (iv_one _) (by omega) ?_; intro w5 hown5 hgrow5)
          | (at_builtin; refine wpList_append_fits_any _ rfl (.tmp 86) (.tmp 89) 27 rfl w2.heap.size 3 i3 1 Try.underlying27 hi3 hz31 w2.heap.size (i + j + (m - i)) n _ rfl hown5 _ (n - m - j) _ (iv (R.drop j)) rfl (by simp [iv, hRl]) (by intro h; first | cases h | (split at h <;> cases h)) (vals_from hRl (hCR.grown hgrow5 (by omega)) (by intro h; first | rfl | (exfalso; omega) | simp [h])) (iv_one _) (by omega) ?_; intro w6 hown6 hgrow6))
        · go_ret
          have e2 : i + j + (m - i) = n := by omega
          have e3 : Ending.returned (Value.slice (some ⟨w2.heap.size, 0, none⟩) (i + j + (m - i)) n) = Ending.returned (Value.slice (some ⟨w2.heap.size, 0, none⟩) n n) := by rw [e2]
          have e6 : i + j + (m - i) + (n - m - j) = n := by omega
          have e4 : RowI w6 (some ⟨w2.heap.size, 0, none⟩) (mrg ks L R) := by
            rw [e6] at hown6
            rw [← HEND.out]
            refine RowI.of_own (n := n) (cap := n) (base := w2.heap.size) ?_
            simpa [iv] using hown6
          have e5 : Below w.heap.size w w6 := HB.out.trans (((hbel.grown hgrow5 hbel.size (fun k hk => by cases hk; exact Nat.le_refl _)).grown hgrow6 (Nat.le_trans hbel.size hgrow5.size) (fun k hk => by cases hk; exact Nat.le_refl _)).mono HS.out)
          exact ⟨w2.heap.size, e3, HS.out, mrg ks L R, e4, HT.out, e5⟩
        · go_ret
          have e2 : i + j + (m - i) + (n - m - j) = n := by omega
          have e3 : Ending.returned (Value.slice (some ⟨w2.heap.size, 0, none⟩) (i + j + (m - i) + (n - m - j)) n) = Ending.returned (Value.slice (some ⟨w2.heap.size, 0, none⟩) n n) := by rw [e2]
          have e4 : RowI w6 (some ⟨w2.heap.size, 0, none⟩) (mrg ks L R) := by
            rw [e2] at hown6
            rw [← HEND.out]
            refine RowI.of_own (n := n) (cap := n) (base := w2.heap.size) ?_
            simpa [iv] using hown6
          have e5 : Below w.heap.size w w6 := HB.out.trans (((hbel.grown hgrow5 hbel.size (fun k hk => by cases hk; exact Nat.le_refl _)).grown hgrow6 (Nat.le_trans hbel.size hgrow5.size) (fun k hk => by cases hk; exact Nat.le_refl _)).mono HS.out)
          first | exact ⟨w2.heap.size, e3, HS.out, mrg ks L R, e4, HT.out, e5⟩ | exact ⟨w2.heap.size, mrg ks L R, e3, HS.out, e4, HT.out, e5⟩
      · have hdj : ¬ j < n - m := by omega
        have hdi : (i : Int) < (m : Int) := by omega
        clear h2 hin
        go_wp2_with (first
          | (at_builtin; refine wpList_append_fits_any _ rfl (.tmp 81) (.tmp 84) 27 rfl w2.heap.size 3 i3 1 Try.underlying27 hi3 hz31 w2.heap.size (i + j) n _ rfl hown _ (m - i) _ (iv (L.drop i)) rfl (by simp [iv, hLl]) (by intro h; first | cases h | (split at h <;> cases h)) (vals_from hLl hCL (by intro h; first | rfl | (exfalso; omega) | simp [h])) (iv_one _) (by omega) ?_; intro w5 hown5 hgrow5)
          | (at_builtin; refine wpList_append_fits_any _ rfl (.tmp 86) (.tmp 89) 27 rfl w2.heap.size 3 i3 1 Try.underlying27 hi3 hz31 w2.heap.size (i + j + (m - i)) n _ rfl hown5 _ (n - m - j) _ (iv (R.drop j)) rfl (by simp [iv, hRl]) (by intro h; first | cases h | (split at h <;> cases h)) (vals_from hRl (hCR.grown hgrow5 (by omega)) (by intro h; first | rfl | (exfalso; omega) | simp [h])) (iv_one _) (by omega) ?_; intro w6 hown6 hgrow6))
        go_ret
        have e2 : i + j + (m - i) + (n - m - j) = n := by omega
        have e3 : Ending.returned (Value.slice (some ⟨w2.heap.size, 0, none⟩) (i + j + (m - i) + (n - m - j)) n) = Ending.returned (Value.slice (some ⟨w2.heap.size, 0, none⟩) n n) := by rw [e2]
        have e4 : RowI w6 (some ⟨w2.heap.size, 0, none⟩) (mrg ks L R) := by
          rw [e2] at hown6
          rw [← HEND.out]
          refine RowI.of_own (n := n) (cap := n) (base := w2.heap.size) ?_
          simpa [iv] using hown6
        have e5 : Below w.heap.size w w6 := HB.out.trans (((hbel.grown hgrow5 hbel.size (fun k hk => by cases hk; exact Nat.le_refl _)).grown hgrow6 (Nat.le_trans hbel.size hgrow5.size) (fun k hk => by cases hk; exact Nat.le_refl _)).mono HS.out)
        exact ⟨w2.heap.size, mrg ks L R, e3, HS.out, e4, HT.out, e5⟩

theorem sort_any (ks : List ByteArray) (kr : Addr) (kc : Nat) : ∀ (b : Nat) (xs : List Nat), xs.length ≤ b → xs.length ≤ 1048576 → xs.Pairwise (· < ·) → (∀ a ∈ xs, a < ks.length) → Sorts ks kr kc xs
  | 0, xs, hb, _, _, _ => fun y cap w _ hr _ => sort_small ks (some kr) kc y xs cap w (by omega) hr
  | b + 1, xs, hb, hn, hup, hks => by
    by_cases h1 : xs.length ≤ 1
    · exact fun y cap w _ hr _ => sort_small ks (some kr) kc y xs cap w h1 hr
    · refine sort_step ks kr kc xs (by omega) hn hup hks ?_ ?_
      · exact sort_any ks kr kc b _ (by rw [List.length_take]; omega) (by rw [List.length_take]; omega) (hup.sublist (List.take_sublist _ _)) (fun a ha => hks a (List.mem_of_mem_take ha))
      · exact sort_any ks kr kc b _ (by rw [List.length_drop]; omega) (by rw [List.length_drop]; omega) (hup.sublist (List.drop_sublist _ _)) (fun a ha => hks a (List.mem_of_mem_drop ha))
end Go.Proofs.Qxb6604637a
