/-
  THE WALK of the law FnEffectiveFlatLastWriterWins (3).
-/
import Derived.Test.Qxb6604637aFlatWalk
import Derived.Test.Qxb6604637aSortWalk
import Derived.Test.Qxb6604637aGroupPlain
import Derived.Maps.AppendAt
namespace Go.Proofs.Qxb6604637a
open Go.RowKit Go.Maps Go.WideMaps

def sv (A : List ByteArray) : List Value := A.map Value.string
theorem sv_snoc (A : List ByteArray) (s : ByteArray) : sv (A ++ [s]) = sv A ++ [.string s] := by simp [sv]
/-- Two rows of strings that the call owns, apart. -/
structure Two (w : World) (B : Nat) (v1 v2 : Value) (A C : List ByteArray) : Prop where
  r1 : w.ownsRow B 9 1 v1 A.length (sv A)
  r2 : w.ownsRow B 9 1 v2 C.length (sv C)
  apart : ∀ g, v1.ownBlock = some g → v2.ownBlock ≠ some g
theorem two_nil (w : World) (B : Nat) : Two w B (.slice none 0 0) (.slice none 0 0) [] [] := ⟨World.ownsRow_nil _ _ _ _, World.ownsRow_nil _ _ _ _, fun g h => by cases h⟩
theorem Two.below {w w' : World} {B : Nat} {v1 v2 : Value} {A C : List ByteArray} (h : Two w B v1 v2 A C) (hb : Below w.heap.size w w') : Two w' B v1 v2 A C := ⟨own_below h.r1 hb, own_below h.r2 hb, h.apart⟩
theorem Two.put1 {w0 w w' : World} {B : Nat} {v1 v2 v' : Value} {A C : List ByteArray} {s : ByteArray} (h : Two w B v1 v2 A C) (hb : Below B w0 w) (hB : B ≤ w.heap.size)
    (hown : w'.ownsRow B 9 1 v' (A.length + 1) (sv A ++ [.string s])) (hg : (w.alloc (.cells #[.string s] 9)).grownBy w' v1.ownBlock) (hat : v'.ownBlock = v1.ownBlock ∨ v'.ownBlock = some (w.alloc (.cells #[.string s] 9)).heap.size) :
    Two w' B v' v2 (A ++ [s]) C ∧ Below B w0 w' := by
  refine ⟨⟨by rw [sv_snoc, List.length_append]; exact hown, (h.r2.alloc _).kept hg ?_, ?_⟩, (hb.alloc hB _).grown hg (by simp; omega) (fun k hk => (h.r1.lt k hk).1)⟩
  · cases hv : v2.ownBlock with
    | none => exact Or.inl rfl
    | some g => exact Or.inr (fun e => h.apart g e.symm hv)
  · intro g hg1 hg2
    rcases hat with e | e
    · exact h.apart g (by rw [← e]; exact hg1) hg2
    · rw [e] at hg1
      have := (h.r2.lt g hg2).2
      have e2 := Option.some.inj hg1
      simp at e2
      omega
theorem Two.swap {w : World} {B : Nat} {v1 v2 : Value} {A C : List ByteArray} (h : Two w B v1 v2 A C) : Two w B v2 v1 C A := ⟨h.r2, h.r1, fun g h1 h2 => h.apart g h2 h1⟩
theorem Two.put2 {w0 w w' : World} {B : Nat} {v1 v2 v' : Value} {A C : List ByteArray} {s : ByteArray} (h : Two w B v1 v2 A C) (hb : Below B w0 w) (hB : B ≤ w.heap.size)
    (hown : w'.ownsRow B 9 1 v' (C.length + 1) (sv C ++ [.string s])) (hg : (w.alloc (.cells #[.string s] 9)).grownBy w' v2.ownBlock) (hat : v'.ownBlock = v2.ownBlock ∨ v'.ownBlock = some (w.alloc (.cells #[.string s] 9)).heap.size) :
    Two w' B v1 v' A (C ++ [s]) ∧ Below B w0 w' := by
  obtain ⟨h1, h2⟩ := h.swap.put1 hb hB hown hg hat
  exact ⟨h1.swap, h2⟩
theorem own_row {w : World} {B : Nat} {v : Value} {A : List ByteArray} (h : w.ownsRow B 9 1 v A.length (sv A)) : ∃ ao c, v = .slice ao A.length c ∧ RowAt w ao A := by
  rcases h.2 with ⟨rfl, h0⟩ | ⟨g, cap, cur, rfl, _⟩
  · refine ⟨none, 0, by rw [h0], fun j hj => by omega⟩
  · exact ⟨_, cap, rfl, fun j hj => ⟨_, rfl, h.cells rfl j _ (by simp [sv, hj])⟩⟩
theorem drewN_below (w : World) (n B : Nat) : Below B w (w.drewN n) := ⟨rfl, rfl, rfl, Nat.le_refl _, fun _ _ => rfl⟩

/-- A row of the grid, wherever the heap has grown to. -/
theorem Grid.at' {w : World} {a : Option Addr} {L : List (List ByteArray)} (h : Grid w a L) (i : Nat) (hi : i < L.length) : ∃ x r c, a = some x ∧ (∀ w', Below w.heap.size w w' → w'.cell? (x.add i) = some (.slice r (L.getD i []).length c)) ∧
    ∀ j, j < (L.getD i []).length → ∃ y, r = some y ∧ ∀ w', Below w.heap.size w w' → w'.cell? (y.add j) = some (.string ((L.getD i []).getD j ByteArray.empty)) := by
  obtain ⟨x, r, c, e, hc, hr⟩ := h i hi
  refine ⟨x, r, c, e, fun w' hb => (hb.cell (p := x.add i) (block_lt_of_cell hc)).trans hc, fun j hj => ?_⟩
  obtain ⟨y, e2, hc2⟩ := hr j hj
  exact ⟨y, e2, fun w' hb => (hb.cell (p := y.add j) (block_lt_of_cell hc2)).trans hc2⟩

theorem sort_keys (ks : List ByteArray) (ao : Option Addr) (kc n : Nat) (y : Addr) (w : World) (hn : n = ks.length) (hb : n ≤ 1048576) (hi : RowI w (some y) (List.range n)) (hk : RowAt w ao ks) :
    Calls Try.prog 9 #[.slice (some y) n n, .slice ao n kc, .slice none 0 0] w fun e w' => ∃ g ys, e = .returned (.slice (some ⟨g, 0, none⟩) n n) ∧ w.heap.size ≤ g ∧ RowI w' (some ⟨g, 0, none⟩) ys ∧ Srt ks (List.range n) ys ∧ Below w.heap.size w w' := by
  have hl : (List.range n).length = n := List.length_range
  cases ao with
  | none =>
    have hks : ks = [] := by
      cases ks with
      | nil => rfl
      | cons s t => obtain ⟨y, e, _⟩ := hk 0 (by simp); cases e
    subst hks
    obtain rfl : n = 0 := hn
    exact sort_small [] none kc y (List.range 0) 0 w (by simp) hi
  | some kr =>
    have := sort_any ks kr kc n (List.range n) (by omega) (by omega) List.pairwise_lt_range (fun a ha => by rw [← hn]; exact List.mem_range.1 ha) y n w (by omega) hi hk
    rw [hl, ← hn] at this
    exact this

theorem take_flat (K : List (List ByteArray)) (k : Nat) (h : k < K.length) : (K.take (k + 1)).flatten = (K.take k).flatten ++ K.getD k [] := by
  rw [List.take_succ_eq_append_getElem h, List.flatten_append, List.getD_eq_getElem?_getD, List.getElem?_eq_getElem h]; simp
theorem take_row (l : List ByteArray) (j : Nat) (h : j < l.length) : l.take (j + 1) = l.take j ++ [l.getD j ByteArray.empty] := by
  rw [List.take_succ_eq_append_getElem h, List.getD_eq_getElem?_getD, List.getElem?_eq_getElem h]; simp
theorem cnt_flat (K : List (List ByteArray)) : K.flatten.length = cnt K K.length := by
  unfold cnt; rw [List.take_length, List.length_flatten]
theorem flat_take_le (K : List (List ByteArray)) (k j : Nat) (h : k < K.length) (hj : j ≤ (K.getD k []).length) : (K.take k).flatten.length + j ≤ K.flatten.length := by
  have h1 : K.flatten = (K.take (k + 1)).flatten ++ (K.drop (k + 1)).flatten := by rw [← List.flatten_append, List.take_append_drop]
  rw [h1, List.length_append, take_flat K k h, List.length_append]
  omega
theorem docs_zip (K V : List (List ByteArray)) (hl : V.length = K.length) : docs K V = (K.zip V).map (fun p => p.1.zip p.2) := by
  apply List.ext_getElem
  · simp [docs, hl]
  · intro i h1 h2
    have hi : i < K.length := by simpa [docs] using h1
    simp [docs, doc, hi, show i < V.length by omega]
theorem docs_flat (K V : List (List ByteArray)) (hl : V.length = K.length) (hr : ∀ i, i < K.length → (V.getD i []).length = (K.getD i []).length) : (docs K V).flatten = K.flatten.zip V.flatten := by
  rw [docs_zip K V hl]
  induction K generalizing V with
  | nil => simp
  | cons k K ih =>
    cases V with
    | nil => simp at hl
    | cons v V =>
      have h0 : v.length = k.length := by simpa using hr 0 (by simp)
      have := ih V (by simpa using hl) (fun i hi => by simpa using hr (i + 1) (by simpa using hi))
      simp only [List.zip_cons_cons, List.map_cons, List.flatten_cons, this]
      rw [List.zip_append h0.symm]
theorem flat_len (K V : List (List ByteArray)) (hl : V.length = K.length) (hr : ∀ i, i < K.length → (V.getD i []).length = (K.getD i []).length) : V.flatten.length = K.flatten.length := by
  induction K generalizing V with
  | nil => simp at hl; simp [hl]
  | cons k K ih =>
    cases V with
    | nil => simp at hl
    | cons v V =>
      have h0 : v.length = k.length := by simpa using hr 0 (by simp)
      have := ih V (by simpa using hl) (fun i hi => by simpa using hr (i + 1) (by simpa using hi))
      simp only [List.flatten_cons, List.length_append, this, h0]
theorem sm_mem {K : List (List ByteArray)} (h : Sm K) (s : ByteArray) (hs : s ∈ K.flatten) : s.size ≤ 1048576 := by
  obtain ⟨l, hl, hsl⟩ := List.mem_flatten.1 hs
  obtain ⟨i, hi, rfl⟩ := List.mem_iff_getElem.1 hl
  obtain ⟨j, hj, rfl⟩ := List.mem_iff_getElem.1 hsl
  have := (h.2 i hi).2 j (by simpa [hi] using hj)
  simpa [hi, hj] using this

set_option maxRecDepth 100000 in
set_option maxHeartbeats 3200000 in
theorem law_any (a b : Option Addr) (ca cb : Nat) (K V : List (List ByteArray)) (W : World) (hgK : Grid W a K) (hgV : Grid W b V) (hmK : Mx K) (hmV : Mx V) :
    Calls Try.prog 3 #[.slice a K.length ca, .slice b V.length cb] W fun e w' => e = .returned (.bool true) ∧ Below W.heap.size W w' := by
  obtain ⟨i9, hi9, hz90, hz91, hz92⟩ := info_parts info9'
  have HC6 : Aside _ := bytes_any a b ca cb K V W hgK hgV hmK hmV
  have HGK : Aside (Grid W a K) := hgK
  have HGV : Aside (Grid W b V) := hgV
  clear hgK hgV
  go_enter Try.func3, Try.ntmps3
  go_wp2_with fail
  refine Calls.mono HC6.out ?_
  rintro e w' ⟨r, rfl, hr, rfl⟩
  clear HC6 hmK hmV
  cases r with
  | false =>
    go_wp2
    go_ret
    exact ⟨rfl, Below.refl _ _⟩
  | true =>
    obtain ⟨hsK, hsV⟩ := hr rfl
    clear hr
    have HSK : Aside (Sm K) := hsK
    have HSV : Aside (Sm V) := hsV
    have hkl := hsK.1
    have hvl := hsV.1
    clear hsK hsV
    go_wp2_with fail
    refine (bytesOf_any a ca K w' HGK.out HSK.out).mono ?_
    rintro e w1 ⟨v1, rfl, ⟨h10, h11, h12⟩, rfl⟩
    go_wp2_with fail
    refine (bytesOf_any b cb V w1 HGV.out HSV.out).mono ?_
    rintro e w2 ⟨v2, rfl, ⟨h20, h21, h22⟩, rfl⟩
    by_cases hsum : ¬ v1 + v2 ≤ 1048576
    · go_wp2
      go_ret
      exact ⟨rfl, Below.refl _ _⟩
    have hsum := Decidable.not_not.1 hsum
    have HCNT : Aside (cnt K K.length ≤ 131072) := by show cnt K K.length ≤ 131072; have := h12 (by omega); omega
    clear h12 h22
    by_cases hlen : ¬ V.length = K.length
    · go_wp2
      go_ret
      exact ⟨rfl, Below.refl _ _⟩
    have hlen := Decidable.not_not.1 hlen
    rw [hlen]
    have HLEN : Aside (V.length = K.length) := hlen
    clear hlen hvl
    go_wp2_with fail
    go_loopg [5] K.length (fun g i wr => ∃ (k : Nat), k ≤ K.length ∧ i = .int .i64 k ∧ Aside (K.length - k ≤ g ∧ ∀ j, j < k → (V.getD j []).length = (K.getD j []).length) ∧ Below w2.heap.size w2 wr)
    case atStart => exact ⟨0, Nat.zero_le _, rfl, ⟨Nat.le_refl _, fun j h => absurd h (Nat.not_lt_zero _)⟩, Below.refl _ _⟩
    case round =>
      clear hsum h10 h11 h20 h21
      obtain ⟨k, hk, rfl, hE, hbel⟩ := hrel
      by_cases hlt : k < K.length
      · obtain ⟨x, r, c, rfl, hc, _⟩ := (HGK.out.below hbel) k hlt
        obtain ⟨z, r2, c2, rfl, hc2, _⟩ := (HGV.out.below hbel) k (by rw [HLEN.out]; exact hlt)
        have hrl := (HSK.out.2 k hlt).1
        have hrl2 := (HSV.out.2 k (by rw [HLEN.out]; exact hlt)).1
        obtain ⟨m, hm⟩ : ∃ m, m = (K.getD k []).length := ⟨_, rfl⟩
        obtain ⟨m2, hm2⟩ : ∃ m, m = (V.getD k []).length := ⟨_, rfl⟩
        rw [← hm] at hc hrl
        rw [← hm2] at hc2 hrl2
        have HM : Aside (m = (K.getD k []).length ∧ m2 = (V.getD k []).length) := ⟨hm, hm2⟩
        clear hm hm2
        have hlt' : (k : Int) < (K.length : Int) := by omega
        by_cases he : m2 = m
        · have he' : (m2 : Int) = (m : Int) := by omega
          have HE : Aside (m2 = m) := he
          clear he
          go_wp2_with fail
          go_quiet (fail)
          go_wp2
          go_roundg (K.length - (k + 1))
          case measure => have := hE.out.1; omega
          case rel =>
            refine ⟨k + 1, by omega, by go_num, ⟨Nat.le_refl _, fun j hj => ?_⟩, hbel.trans (drewN_below _ _ _)⟩
            by_cases e : j = k
            · subst e; rw [← HM.out.1, ← HM.out.2, HE.out]
            · exact hE.out.2 j (by omega)
        · have he' : ¬ (m2 : Int) = (m : Int) := by omega
          go_wp2_with fail
          go_quiet (fail)
          go_wp2
          go_ret
          exact ⟨rfl, hbel.trans (drewN_below _ _ _)⟩
      · obtain rfl : k = K.length := by omega
        have HROWS : Aside (∀ j, j < K.length → (V.getD j []).length = (K.getD j []).length) := hE.out.2
        have HB1 : Aside (Below w2.heap.size w2 wr) := hbel
        have HK1 : Aside (Grid wr a K) := HGK.out.below hbel
        have HV1 : Aside (Grid wr b V) := HGV.out.below hbel
        clear hE hbel hk hlt HGK HGV
        go_wp2_with fail
        refine Calls.mono (clone_any a ca K wr HK1.out HSK.out) ?_
        rintro e w3 ⟨a1, rfl, hg3, _, hb3⟩
        have hc8 := clone_any b cb V w3 (HV1.out.below hb3) HSV.out
        rw [HLEN.out] at hc8
        have HC8 : Aside _ := hc8
        clear hc8
        go_wp2_with fail
        refine Calls.mono HC8.out ?_
        rintro e w4 ⟨b1, rfl, hg4, _, hb4⟩
        have HG1 : Aside (Grid w4 a1 K) := hg3.below hb4
        have HG2 : Aside (Grid w4 b1 V) := hg4
        have HB4 : Aside (Below w2.heap.size w2 w4) := (HB1.out.trans (hb3.mono HB1.out.size)).trans (hb4.mono (Nat.le_trans HB1.out.size hb3.size))
        have HFL : Aside (K.flatten.length ≤ 131072 ∧ V.flatten.length = K.flatten.length) := ⟨by rw [cnt_flat]; exact HCNT.out, flat_len K V HLEN.out HROWS.out⟩
        clear HC8 hg3 hg4 hb3 hb4 HB1 HCNT HK1 HV1
        go_wp2_with fail
        go_loopg [6, 7, 8] K.length (fun g s6 s7 s8 wr => ∃ (k : Nat), k ≤ K.length ∧ s8 = .int .i64 k ∧ Aside (K.length - k ≤ g ∧ Two wr w4.heap.size s6 s7 (K.take k).flatten (V.take k).flatten) ∧ Below w4.heap.size w4 wr)
        case atStart => exact ⟨0, Nat.zero_le _, rfl, ⟨Nat.le_refl _, by simpa using two_nil _ _⟩, Below.refl _ _⟩
        case round =>
          obtain ⟨k, hk, rfl, hE, hbel⟩ := hrel
          rename World => wo
          by_cases hlt : k < K.length
          · obtain ⟨x, r, c, rfl, hc, hrow⟩ := HG1.out.at' k hlt
            obtain ⟨z, r2, c2, rfl, hc2, hrow2⟩ := HG2.out.at' k (by rw [HLEN.out]; exact hlt)
            have hll := HROWS.out k hlt
            have hrl := (HSK.out.2 k hlt).1
            have HLE : Aside (∀ j, j ≤ (K.getD k []).length → (K.take k).flatten.length + j ≤ 131072 ∧ (V.take k).flatten.length + j ≤ 131072) := fun j hj =>
              ⟨Nat.le_trans (flat_take_le K k j hlt hj) HFL.out.1, Nat.le_trans (flat_take_le V k j (by rw [HLEN.out]; exact hlt) (by omega)) (by rw [HFL.out.2]; exact HFL.out.1)⟩
            obtain ⟨kk, hkk⟩ : ∃ kk, kk = K.getD k [] := ⟨_, rfl⟩
            obtain ⟨vv, hvv⟩ : ∃ vv, vv = V.getD k [] := ⟨_, rfl⟩
            rw [← hkk] at hc hrow hll hrl HLE
            rw [← hvv] at hc2 hrow2 hll
            have HKV : Aside (kk = K.getD k [] ∧ vv = V.getD k []) := ⟨hkk, hvv⟩
            have HRK : Aside _ := hrow
            have HRV : Aside _ := hrow2
            have HCK : Aside _ := hc
            have HCV : Aside _ := hc2
            clear hkk hvv hrow hrow2 hc hc2
            go_wp2_with fail
            go_loopg [6, 7, 9] kk.length (fun g s6 s7 s9 wr => ∃ (j : Nat), j ≤ kk.length ∧ s9 = .int .i64 j ∧ Aside (kk.length - j ≤ g ∧ Two wr w4.heap.size s6 s7 ((K.take k).flatten ++ kk.take j) ((V.take k).flatten ++ vv.take j)) ∧ Below w4.heap.size w4 wr)
            case atStart => exact ⟨0, Nat.zero_le _, rfl, ⟨Nat.le_refl _, by simpa using hE.out.2⟩, hbel⟩
            case round =>
              obtain ⟨j, hj, rfl, hE2, hbi⟩ := hrel
              have hcx := HCK.out wr hbi
              by_cases hjl : j < kk.length
              · obtain ⟨y, rfl, hy⟩ := HRK.out j hjl
                obtain ⟨y2, rfl, hy2⟩ := HRV.out j (by omega)
                have HTK : Aside _ := take_row kk j hjl
                have HTV : Aside _ := take_row vv j (by omega)
                have hcy := hy wr hbi
                have HY2 : Aside _ := hy2
                clear hy hy2
                obtain ⟨s, hs⟩ : ∃ s, s = kk.getD j ByteArray.empty := ⟨_, rfl⟩
                obtain ⟨t, ht⟩ : ∃ t, t = vv.getD j ByteArray.empty := ⟨_, rfl⟩
                rw [← hs] at hcy HTK
                rw [← ht] at HY2 HTV
                clear hs ht
                obtain ⟨A, hA⟩ : ∃ A, A = (K.take k).flatten ++ kk.take j := ⟨_, rfl⟩
                obtain ⟨C, hC⟩ : ∃ C, C = (V.take k).flatten ++ vv.take j := ⟨_, rfl⟩
                have hAl : A.length ≤ 131072 := by rw [hA, List.length_append, List.length_take]; have := (HLE.out j hj).1; omega
                have hCl : C.length ≤ 131072 := by rw [hC, List.length_append, List.length_take]; have := (HLE.out j hj).2; omega
                have hT := hE2.out.2
                rw [← hA, ← hC] at hT
                have HT : Aside _ := hT
                have HA : Aside (A = (K.take k).flatten ++ kk.take j ∧ C = (V.take k).flatten ++ vv.take j) := ⟨hA, hC⟩
                clear hT hA hC
                have hjl' : (j : Int) < (kk.length : Int) := by omega
                have hjl2 : (j : Int) < (vv.length : Int) := by omega
                have HBI : Aside (Below w4.heap.size w4 wr) := hbi
                have hbs := hbi.size
                have HMS : Aside (kk.length - j ≤ _) := hE2.out.1
                clear hbi hE2
                go_wp2_with (first
                  | (at_builtin; refine wpList_append_own_at _ rfl (.tmp 71) (.tmp 79) 25 rfl w4.heap.size 9 i9 (.string ByteArray.empty) 1 16 Try.underlying25 hi9 hz90 hz91 hz92 rfl (by decide) _ _ _ rfl (HT.out.r1.alloc _) ⟨wr.heap.size, 0, none⟩ 1 1 [.string s] rfl rfl (lit_cell wr _ 9) (by intro u hu; simp at hu; subst hu; rfl) (by unfold maxLen; omega) (by omega) (by simp; omega) ?_; intro v5 w5 hown5 hgrow5 _ hat5; obtain ⟨hT5, hb5⟩ := HT.out.put1 HBI.out hbs hown5 hgrow5 hat5; have hcx5 := HCV.out w5 hb5; have hcy5 := HY2.out w5 hb5; have hbs5 := hb5.size; have HT5 : Aside _ := hT5; have HB5 : Aside _ := hb5; clear hT5 hb5 hown5 hgrow5 hat5)
                  | (at_builtin; refine wpList_append_own_at _ rfl (.tmp 81) (.tmp 89) 25 rfl w4.heap.size 9 i9 (.string ByteArray.empty) 1 16 Try.underlying25 hi9 hz90 hz91 hz92 rfl (by decide) _ _ _ rfl (HT5.out.r2.alloc _) ⟨w5.heap.size, 0, none⟩ 1 1 [.string t] rfl rfl (lit_cell w5 _ 9) (by intro u hu; simp at hu; subst hu; rfl) (by unfold maxLen; omega) (by omega) (by simp; omega) ?_; intro v6 w6 hown6 hgrow6 _ hat6; obtain ⟨hT6, hb6⟩ := HT5.out.put2 HB5.out hbs5 hown6 hgrow6 hat6; have HT6 : Aside _ := hT6; have HB6 : Aside _ := hb6; clear hT6 hb6 hown6 hgrow6 hat6))
                go_roundg (kk.length - (j + 1))
                case measure => have := HMS.out; omega
                case rel =>
                  refine ⟨j + 1, by omega, by go_num, ⟨Nat.le_refl _, ?_⟩, HB6.out⟩
                  have := HT6.out
                  rw [HA.out.1, HA.out.2, List.append_assoc, List.append_assoc, ← HTK.out, ← HTV.out] at this
                  exact this
              · have hT := hE2.out.2
                rw [show kk.take j = kk from List.take_of_length_le (by omega), show vv.take j = vv from List.take_of_length_le (by omega), HKV.out.1, HKV.out.2, ← take_flat K k hlt, ← take_flat V k (by rw [HLEN.out]; exact hlt)] at hT
                have HT : Aside _ := hT
                have HBI : Aside (Below w4.heap.size w4 wr) := hbi
                clear hT hbi
                go_wp2
                go_roundg (K.length - (k + 1))
                case measure => have := hE.out.1; omega
                case rel => exact ⟨k + 1, by omega, by go_num, ⟨Nat.le_refl _, HT.out⟩, HBI.out⟩
          · obtain rfl : k = K.length := by omega
            have hT := hE.out.2
            rw [List.take_length, List.take_of_length_le (by rw [HLEN.out]; exact Nat.le_refl _)] at hT
            obtain ⟨ks, hks⟩ : ∃ ks, ks = K.flatten := ⟨_, rfl⟩
            obtain ⟨vs, hvs⟩ : ∃ vs, vs = V.flatten := ⟨_, rfl⟩
            rw [← hks, ← hvs] at hT HFL
            have HKS : Aside (ks = K.flatten ∧ vs = V.flatten) := ⟨hks, hvs⟩
            clear hks hvs hE hk hlt
            obtain ⟨ko, kc, e1, hrk⟩ := own_row hT.r1
            obtain ⟨vo, vc, e2, hrv⟩ := own_row hT.r2
            rw [HFL.out.2] at e2
            obtain ⟨n, hn⟩ : ∃ n, n = ks.length := ⟨_, rfl⟩
            rw [← hn] at e1 e2
            subst e1
            subst e2
            have hnb : n ≤ 131072 := by rw [hn]; exact HFL.out.1
            have HNN : Aside (n = ks.length ∧ vs.length = n) := ⟨hn, by rw [hn]; exact HFL.out.2⟩
            have HRK : Aside (RowAt wo ko ks) := hrk
            have HRV : Aside (RowAt wo vo vs) := hrv
            have HBO : Aside (Below w4.heap.size w4 wo) := hbel
            clear hT hn hrk hrv hbel HFL
            go_wp2_with (first
              | (go_at_call 10; refine (iota_any n wo (by omega)).mono ?_; rintro e w5 ⟨rfl, hri, hb5⟩; have HSO : Aside _ := sort_keys ks ko kc n _ w5 HNN.out.1 (by omega) hri (HRK.out.below hb5); have HB5 : Aside _ := hb5; clear hri hb5)
              | (go_at_call 9; refine Calls.mono HSO.out ?_; rintro e w6 ⟨gi, ys, rfl, hg6, hry, hsrt, hb6⟩; clear HSO))
            have hyl : ys.length = n := by rw [hsrt.1.length_eq, List.length_range]
            have HB6 : Aside (Below wo.heap.size wo w6) := HB5.out.trans (hb6.mono HB5.out.size)
            have HRI : Aside (∀ t, t < n → ∀ w', Below w6.heap.size w6 w' → w'.cell? ⟨gi, t, none⟩ = some (.int .i64 (ys.getD t 0 : Nat))) := fun t ht w' hb => by
              obtain ⟨y, e, hc⟩ := hry t (by omega)
              cases e
              rw [Addr.add_mid, Nat.zero_add] at hc
              exact (hb.cell (p := ⟨gi, t, none⟩) (block_lt_of_cell hc)).trans hc
            have HYN : Aside (∀ t, t < n → ys.getD t 0 < n) := fun t ht => by
              have : ys.getD t 0 ∈ ys := by rw [List.getD_eq_getElem?_getD, List.getElem?_eq_getElem (by omega)]; exact List.getElem_mem _
              exact List.mem_range.1 (hsrt.1.mem_iff.1 this)
            have HKC : Aside (∀ m, m < n → ∃ y, ko = some y ∧ ∀ w', Below w6.heap.size w6 w' → w'.cell? (y.add m) = some (.string (gb ks m))) := fun m hm => by
              obtain ⟨y, e, hc⟩ := (HRK.out.below HB6.out) m (by rw [← HNN.out.1]; exact hm)
              exact ⟨y, e, fun w' hb => (hb.cell (p := y.add m) (block_lt_of_cell hc)).trans hc⟩
            have HVC : Aside (∀ m, m < n → ∃ y, vo = some y ∧ ∀ w', Below w6.heap.size w6 w' → w'.cell? (y.add m) = some (.string (gb vs m))) := fun m hm => by
              obtain ⟨y, e, hc⟩ := (HRV.out.below HB6.out) m (by rw [HNN.out.2]; exact hm)
              exact ⟨y, e, fun w' hb => (hb.cell (p := y.add m) (block_lt_of_cell hc)).trans hc⟩
            have HSR : Aside (Srt ks (List.range ks.length) ys ∧ vs.length = ks.length ∧ ys.length = n) := ⟨by rw [← HNN.out.1]; exact hsrt, by rw [← HNN.out.1]; exact HNN.out.2, hyl⟩
            clear hyl hry hsrt hb6 HRK HRV HB5 hg6
            go_loopg [11, 12, 13] n (fun gg s11 s12 s13 wr => ∃ (i : Nat) (A C : List ByteArray), i ≤ n ∧ s13 = .int .i64 i ∧ Aside (n - i ≤ gg ∧ Grp ks vs ys i A C ∧ Two wr w6.heap.size s11 s12 A C) ∧ Below w6.heap.size w6 wr)
            case atStart => exact ⟨0, [], [], Nat.zero_le _, rfl, ⟨Nat.le_refl _, grp_nil _ _ _, two_nil _ _⟩, Below.refl _ _⟩
            case round =>
              obtain ⟨i, A, C, hi, rfl, hE, hbel⟩ := hrel
              rename World => wq
              by_cases hlt : i < n
              · have hAl : A.length ≤ 131072 := by have := hE.out.2.1.small; omega
                have hCl : C.length ≤ 131072 := by rw [hE.out.2.1.len]; exact hAl
                have han := HYN.out i hlt
                obtain ⟨y, rfl, hys⟩ := HKC.out _ han
                obtain ⟨s, hs⟩ : ∃ s, s = kt ks ys i := ⟨_, rfl⟩
                have HS : Aside (s = kt ks ys i) := hs
                have HYS : Aside (∀ w', Below w6.heap.size w6 w' → w'.cell? (y.add (ys.getD i 0)) = some (.string s)) := by rw [hs]; exact hys
                have HRII : Aside _ := HRI.out i hlt
                clear hs hys
                generalize ys.getD i 0 = a0 at HYS HRII han
                go_wp2_with fail
                go_loopg [14] n (fun gg s14 wr => ∃ (j : Nat), i ≤ j ∧ j < n ∧ s14 = .int .i64 j ∧ Aside (n - j ≤ gg ∧ ∀ t, i ≤ t → t ≤ j → kt ks ys t = kt ks ys i) ∧ Below wq.heap.size wq wr)
                case atStart => exact ⟨i, Nat.le_refl _, hlt, rfl, ⟨by omega, fun t h1 h2 => by rw [Nat.le_antisymm h2 h1]⟩, Below.refl _ _⟩
                case round =>
                  obtain ⟨j, hij, hjn, rfl, hE2, hbi⟩ := hrel
                  have hbw : Below w6.heap.size w6 wr := hbel.trans (hbi.mono hbel.size)
                  have hdn := HYN.out j hjn
                  obtain ⟨y2, rfl, hv2⟩ := HVC.out _ hdn
                  obtain ⟨v, hv⟩ : ∃ v, v = gb vs (ys.getD j 0) := ⟨_, rfl⟩
                  have HV : Aside (v = gb vs (ys.getD j 0)) := hv
                  rw [← hv] at hv2
                  have HCD : Aside _ := hv2
                  have HRJ : Aside _ := HRI.out j hjn
                  clear hv hv2
                  generalize ys.getD j 0 = d0 at HCD HRJ hdn
                  have hcs := HYS.out wr hbw
                  have hci := HRII.out wr hbw
                  have hdn' : (d0 : Int) < (n : Int) := by omega
                  have hjn' : (j : Int) < (n : Int) := by omega
                  have han' : (a0 : Int) < (n : Int) := by omega
                  have hlt' : (i : Int) < (n : Int) := by omega
                  by_cases h1 : j + 1 < n
                  · have hbn := HYN.out (j + 1) h1
                    obtain ⟨y1, e, hys1⟩ := HKC.out _ hbn
                    cases e
                    have hcb := hys1 wr hbw
                    have hcj := HRI.out (j + 1) h1 wr hbw
                    obtain ⟨t, ht⟩ : ∃ t, t = kt ks ys (j + 1) := ⟨_, rfl⟩
                    have HTT : Aside (t = kt ks ys (j + 1)) := ht
                    rw [show gb ks (ys.getD (j + 1) 0) = t from ht.symm] at hcb
                    clear ht hys1
                    generalize ys.getD (j + 1) 0 = b0 at hcb hcj hbn
                    have h1' : (j : Int) + 1 < (n : Int) := by omega
                    have hbn' : (b0 : Int) < (n : Int) := by omega
                    by_cases hst : t.toList = s.toList
                    · have hq : (t.toList == s.toList) = true := by simp [hst]
                      have HQ : Aside (t = s) := (toList_iff _ _).1 hst
                      clear hst
                      go_wp2_with fail
                      go_quiet (fail)
                      go_wp2
                      go_roundg (n - (j + 1))
                      case measure => have := hE2.out.1; omega
                      case rel =>
                        refine ⟨j + 1, by omega, h1, by go_num, ⟨Nat.le_refl _, fun u hu1 hu2 => ?_⟩, hbi.trans (drewN_below _ _ _)⟩
                        by_cases e : u = j + 1
                        · rw [e, ← HTT.out, HQ.out, HS.out]
                        · exact hE2.out.2 u hu1 (by omega)
                    · have hq : (t.toList == s.toList) = false := by simp [hst]
                      have HQ : Aside (t ≠ s) := fun e => hst (by rw [e])
                      clear hst
                      go_wp2_with fail
                      go_quiet (fail)
                      have HT : Aside (Two (wr.drewN nq) w6.heap.size _ _ A C) := (hE.out.2.2.below hbi).below (drewN_below _ _ _)
                      have HB7 : Aside (Below w6.heap.size w6 (wr.drewN nq)) := hbw.trans (drewN_below _ _ _)
                      have hbs : w6.heap.size ≤ (wr.drewN nq).heap.size := hbw.size
                      have hnl : A.length ≤ 131072 ∧ C.length ≤ 131072 := ⟨hAl, hCl⟩
                      go_wp2_with (first
                        | (at_builtin; refine wpList_append_own_at _ rfl (.tmp 126) (.tmp 134) 25 rfl w6.heap.size 9 i9 (.string ByteArray.empty) 1 16 Try.underlying25 hi9 hz90 hz91 hz92 rfl (by decide) _ _ _ rfl (HT.out.r1.alloc _) ⟨(wr.drewN nq).heap.size, 0, none⟩ 1 1 [.string s] rfl rfl (lit_cell (wr.drewN nq) _ 9) (by intro u hu; simp at hu; subst hu; rfl) (by unfold maxLen; omega) (by omega) (Nat.le_trans hbs (by simp)) ?_; intro v8 w8 hown8 hgrow8 _ hat8; obtain ⟨hT8, hb8⟩ := HT.out.put1 HB7.out hbs hown8 hgrow8 hat8; have hcj8 := HRJ.out w8 hb8; have hcv8 := HCD.out w8 hb8; have hbs8 := hb8.size; have HT8 : Aside _ := hT8; have HB8 : Aside _ := hb8; clear hT8 hb8 hown8 hgrow8 hat8)
                        | (at_builtin; refine wpList_append_own_at _ rfl (.tmp 136) (.tmp 144) 25 rfl w6.heap.size 9 i9 (.string ByteArray.empty) 1 16 Try.underlying25 hi9 hz90 hz91 hz92 rfl (by decide) _ _ _ rfl (HT8.out.r2.alloc _) ⟨w8.heap.size, 0, none⟩ 1 1 [.string v] rfl rfl (lit_cell w8 _ 9) (by intro u hu; simp at hu; subst hu; rfl) (by unfold maxLen; omega) (by omega) (by simp; omega) ?_; intro v9 w9 hown9 hgrow9 _ hat9; obtain ⟨hT9, hb9⟩ := HT8.out.put2 HB8.out hbs8 hown9 hgrow9 hat9; have HT9 : Aside _ := hT9; have HB9 : Aside _ := hb9; clear hT9 hb9 hown9 hgrow9 hat9))
                      go_roundg (n - (j + 1))
                      case measure => have := hE.out.1; omega
                      case rel =>
                        refine ⟨j + 1, A ++ [s], C ++ [v], by omega, by go_num, ⟨Nat.le_refl _, ?_, HT9.out⟩, HB9.out⟩
                        rw [HS.out, HV.out]
                        exact grp_step HSR.out.2.1 HSR.out.1 hE.out.2.1 hij (by rw [HSR.out.2.2]; exact hjn) hE2.out.2 (fun h => by rw [← HTT.out, ← HS.out]; exact HQ.out)
                  · have h1' : decide ((j : Int) + 1 < (n : Int)) = false := decide_eq_false (by omega)
                    go_wp2_with fail
                    go_quiet (fail)
                    have HT : Aside (Two (wr.drewN nq) w6.heap.size _ _ A C) := (hE.out.2.2.below hbi).below (drewN_below _ _ _)
                    have HB7 : Aside (Below w6.heap.size w6 (wr.drewN nq)) := hbw.trans (drewN_below _ _ _)
                    have hbs : w6.heap.size ≤ (wr.drewN nq).heap.size := hbw.size
                    have hnl : A.length ≤ 131072 ∧ C.length ≤ 131072 := ⟨hAl, hCl⟩
                    go_wp2_with (first
                      | (at_builtin; refine wpList_append_own_at _ rfl (.tmp 126) (.tmp 134) 25 rfl w6.heap.size 9 i9 (.string ByteArray.empty) 1 16 Try.underlying25 hi9 hz90 hz91 hz92 rfl (by decide) _ _ _ rfl (HT.out.r1.alloc _) ⟨(wr.drewN nq).heap.size, 0, none⟩ 1 1 [.string s] rfl rfl (lit_cell (wr.drewN nq) _ 9) (by intro u hu; simp at hu; subst hu; rfl) (by unfold maxLen; omega) (by omega) (Nat.le_trans hbs (by simp)) ?_; intro v8 w8 hown8 hgrow8 _ hat8; obtain ⟨hT8, hb8⟩ := HT.out.put1 HB7.out hbs hown8 hgrow8 hat8; have hcj8 := HRJ.out w8 hb8; have hcv8 := HCD.out w8 hb8; have hbs8 := hb8.size; have HT8 : Aside _ := hT8; have HB8 : Aside _ := hb8; clear hT8 hb8 hown8 hgrow8 hat8)
                      | (at_builtin; refine wpList_append_own_at _ rfl (.tmp 136) (.tmp 144) 25 rfl w6.heap.size 9 i9 (.string ByteArray.empty) 1 16 Try.underlying25 hi9 hz90 hz91 hz92 rfl (by decide) _ _ _ rfl (HT8.out.r2.alloc _) ⟨w8.heap.size, 0, none⟩ 1 1 [.string v] rfl rfl (lit_cell w8 _ 9) (by intro u hu; simp at hu; subst hu; rfl) (by unfold maxLen; omega) (by omega) (by simp; omega) ?_; intro v9 w9 hown9 hgrow9 _ hat9; obtain ⟨hT9, hb9⟩ := HT8.out.put2 HB8.out hbs8 hown9 hgrow9 hat9; have HT9 : Aside _ := hT9; have HB9 : Aside _ := hb9; clear hT9 hb9 hown9 hgrow9 hat9))
                    go_roundg (n - (j + 1))
                    case measure => have := hE.out.1; omega
                    case rel =>
                      refine ⟨j + 1, A ++ [s], C ++ [v], by omega, by go_num, ⟨Nat.le_refl _, ?_, HT9.out⟩, HB9.out⟩
                      rw [HS.out, HV.out]
                      exact grp_step HSR.out.2.1 HSR.out.1 hE.out.2.1 hij (by rw [HSR.out.2.2]; exact hjn) hE2.out.2 (fun h => absurd (HSR.out.2.2 ▸ h) h1)
              · obtain rfl : i = n := by omega
                have hT := hE.out.2.2
                have HGR : Aside (Grp ks vs ys ys.length A C) := by rw [HSR.out.2.2]; exact hE.out.2.1
                obtain ⟨po, pc, e1, hrp⟩ := own_row hT.r1
                obtain ⟨qo, qc, e2, hrq⟩ := own_row hT.r2
                rw [HGR.out.len] at e2
                have hql : A.length ≤ 131072 := by have := hE.out.2.1.small; omega
                obtain ⟨P, hP⟩ : ∃ P, P = ks.zip vs := ⟨_, rfl⟩
                have HPP : Aside (P = ks.zip vs) := hP
                have HMEM : Aside (∀ s, s ∈ A ↔ (look P s).isSome = true) := fun s => by rw [hP]; exact grp_end HSR.out.2.1 HSR.out.1 HGR.out s
                have hPf : P = (docs K V).flatten := by rw [hP, docs_flat K V HLEN.out HROWS.out, HKS.out.1, HKS.out.2]
                have hfl : Flat wq a1 b1 po K V A := ⟨(HG1.out.below HBO.out).below (HB6.out.trans (hbel.mono HB6.out.size)), (HG2.out.below HBO.out).below (HB6.out.trans (hbel.mono HB6.out.size)), hrp, HLEN.out, HROWS.out, HSK.out, HSV.out, by omega, fun j hj => by
                  have hm : gb A j ∈ A := by rw [gb, List.getD_eq_getElem?_getD, List.getElem?_eq_getElem hj]; exact List.getElem_mem _
                  have h2 := (look_mem P _).1 ((HMEM.out _).1 hm)
                  rw [hP, List.map_fst_zip (by rw [HSR.out.2.1]; exact Nat.le_refl _), HKS.out.1] at h2
                  exact sm_mem HSK.out _ h2, by rw [← hPf, hP, List.length_zip, ← HNN.out.1]; omega⟩
                have hf11 := flat_any a1 b1 po K.length K.length pc K V A P wq hfl hPf
                rw [HLEN.out] at hf11
                obtain ⟨q, hq⟩ : ∃ q, q = A.length := ⟨_, rfl⟩
                rw [← hq] at hf11 e1 e2 hql
                have HQQ : Aside (q = A.length) := hq
                subst e1
                subst e2
                have HTOLD : Aside (∀ t, t < q → look P (gb A t) = some (gb C t)) := fun t ht => by rw [hP]; exact HGR.out.told t (by rw [← hq]; exact ht)
                have HRQ : Aside (∀ t, t < q → ∃ y, qo = some y ∧ ∀ w', Below wq.heap.size wq w' → w'.cell? (y.add t) = some (.string (gb C t))) := fun t ht => by
                  obtain ⟨y, e, hc⟩ := hrq t (by rw [HGR.out.len, ← hq]; exact ht)
                  exact ⟨y, e, fun w' hb => (hb.cell (p := y.add t) (block_lt_of_cell hc)).trans hc⟩
                have HNO : Aside (ks.zip vs = [] ↔ q = 0) := by
                  show ks.zip vs = [] ↔ q = 0
                  rw [hq]; exact grp_none HSR.out.2.1 HSR.out.1 HGR.out
                have HBQ : Aside (Below w2.heap.size w2 wq) := by
                  have h46 : Below w4.heap.size w4 wq := HBO.out.trans ((HB6.out.trans (hbel.mono HB6.out.size)).mono HBO.out.size)
                  exact HB4.out.trans (h46.mono HB4.out.size)
                clear hP hq hPf hfl hT hE hrp hrq hbel
                by_cases h0 : q = 0
                · have h0' : decide ((q : Int) = 0) = true := decide_eq_true (by omega)
                  have H0 : Aside (q = 0) := h0
                  clear h0
                  have hPd : decide (P = []) = true := by rw [HPP.out]; exact decide_eq_true (HNO.out.2 H0.out)
                  rw [hPd] at hf11
                  have HF : Aside _ := hf11
                  clear hf11 hPd
                  go_wp2_with fail
                  refine Calls.mono HF.out ?_
                  rintro e w7 ⟨g1, g2, N, rfl, hg1, hg2, hcells, hN, hb7⟩
                  have hNq : N = q := (hN A HGR.out.nodup HMEM.out).trans HQQ.out.symm
                  rw [hNq]
                  have HCE : Aside _ := hcells
                  have HB7 : Aside _ := hb7
                  clear HF hN hNq hcells hb7 hg1 hg2
                  go_wp2_with fail
                  go_loopg [19] q (fun gg s19 wr => ∃ (t : Nat), t ≤ q ∧ s19 = .int .i64 t ∧ Aside (q - t ≤ gg) ∧ Below w7.heap.size w7 wr)
                  case atStart => exact ⟨0, Nat.zero_le _, rfl, Nat.le_refl _, Below.refl _ _⟩
                  case round =>
                    obtain ⟨t, ht, rfl, hE3, hb8⟩ := hrel
                    by_cases htq : t < q
                    · exact absurd htq (by rw [H0.out]; exact Nat.not_lt_zero _)
                    · obtain rfl : t = q := by omega
                      go_wp2
                      go_ret
                      exact ⟨rfl, HBQ.out.trans ((HB7.out.trans (hb8.mono HB7.out.size)).mono HBQ.out.size)⟩
                · have h0' : decide ((q : Int) = 0) = false := decide_eq_false (by omega)
                  have H0 : Aside (¬ q = 0) := h0
                  clear h0
                  have hPd : decide (P = []) = false := by rw [HPP.out]; exact decide_eq_false (fun e => H0.out (HNO.out.1 e))
                  rw [hPd] at hf11
                  have HF : Aside _ := hf11
                  clear hf11 hPd
                  go_wp2_with fail
                  refine Calls.mono HF.out ?_
                  rintro e w7 ⟨g1, g2, N, rfl, hg1, hg2, hcells, hN, hb7⟩
                  have hNq : N = q := (hN A HGR.out.nodup HMEM.out).trans HQQ.out.symm
                  rw [hNq]
                  have HCE : Aside _ := hcells
                  have HB7 : Aside _ := hb7
                  clear HF hN hNq hcells hb7 hg1 hg2
                  go_wp2_with fail
                  go_loopg [19] q (fun gg s19 wr => ∃ (t : Nat), t ≤ q ∧ s19 = .int .i64 t ∧ Aside (q - t ≤ gg) ∧ Below w7.heap.size w7 wr)
                  case atStart => exact ⟨0, Nat.zero_le _, rfl, Nat.le_refl _, Below.refl _ _⟩
                  case round =>
                    obtain ⟨t, ht, rfl, hE3, hb8⟩ := hrel
                    by_cases htq : t < q
                    · obtain ⟨y3, rfl, hy3⟩ := HRQ.out t htq
                      obtain ⟨hc1, hc2⟩ := HCE.out t htq
                      rw [show look P (A.getD t ByteArray.empty) = some (gb C t) from HTOLD.out t htq] at hc1 hc2
                      have hc3 := hy3 wr (HB7.out.trans (hb8.mono HB7.out.size))
                      have hc1' : wr.cell? ⟨g1, t, none⟩ = some (.string (gb C t)) := (hb8.cell (p := ⟨g1, t, none⟩) (block_lt_of_cell hc1)).trans hc1
                      have hc2' : wr.cell? ⟨g2, t, none⟩ = some (.bool true) := (hb8.cell (p := ⟨g2, t, none⟩) (block_lt_of_cell hc2)).trans hc2
                      clear hc1 hc2 hy3
                      generalize gb C t = c3 at hc3 hc1'
                      have htq' : (t : Int) < (q : Int) := by omega
                      go_wp2_with fail
                      go_quiet (fail)
                      go_wp2
                      go_roundg (q - (t + 1))
                      case measure => have := hE3.out; omega
                      case rel => exact ⟨t + 1, by omega, by go_num, Nat.le_refl _, hb8.trans (drewN_below _ _ _)⟩
                    · obtain rfl : t = q := by omega
                      go_wp2
                      go_ret
                      exact ⟨rfl, HBQ.out.trans ((HB7.out.trans (hb8.mono HB7.out.size)).mono HBQ.out.size)⟩
end Go.Proofs.Qxb6604637a
