/-
  THE WALK of ZZEffectiveFlat (11).
-/
import Derived.Test.Qxb6604637aCloneWalk
import Derived.Test.Qxb6604637aMapWalk
import Derived.BigQuiet
import Derived.Deep.QuietTactic
import Derived.Deep.RegionHeld
namespace Go.Proofs.Qxb6604637a
open Go.RowKit Go.Maps Go.WideMaps

theorem info44' : (Try.prog.info? 44).map (fun i => (i.zero, i.size, i.bytes)) = some (some (.map none), 1, 8) := by kernel_rfl
theorem info4' : (Try.prog.info? 4).map (fun i => (i.zero, i.size, i.bytes)) = some (some (.bool false), 1, 1) := by kernel_rfl
theorem mm_hint (n : Int) (w : World) : (Instr.makeMap 44 (some (.int .i64 n))).run Try.prog w = .ok (.map (some w.heap.size)) (w.alloc (.map #[] 0)) := by
  simp [Instr.makeMap, run_underlying Try.underlying44, asInt, asIntOf, Result.andThen]

/-- The document i, as pairs. -/
def doc (K V : List (List ByteArray)) (i : Nat) : Pairs := (K.getD i []).zip (V.getD i [])
def docs (K V : List (List ByteArray)) : List Pairs := (List.range K.length).map (doc K V)
theorem docs_len (K V : List (List ByteArray)) : (docs K V).length = K.length := by simp [docs]
theorem docs_get (K V : List (List ByteArray)) (i : Nat) (h : i < K.length) : (docs K V).getD i [] = doc K V i := by simp [docs, h]
theorem mapV_other {w w' : World} {A : Nat} {m : Option Nat} {P : Pairs} {cs : Array Value} {t : TypeId} {fr : Nat × Nat} (h : MapV w m P) (hg : w.grownBy w' (some A)) (hA : w.heap[A]? = some (.cells cs t fr)) : MapV w' m P := by
  rcases h with h | ⟨b, n, D, rfl, hn, hown, hr⟩
  · exact Or.inl h
  · refine Or.inr ⟨b, n, D, rfl, hn, hown.kept (row := some A) hg ?_, hr⟩
    intro e
    obtain ⟨es, clock, hb, _⟩ := hown
    have e' : b = A := by simpa using e
    rw [e', hA] at hb
    cases hb
/-- The first k documents stand. -/
def DPart (w : World) (k : Nat) (K V : List (List ByteArray)) (cs : List Value) : Prop := ∀ i, i < k → ∃ m, cs[i]? = some (.map m) ∧ MapV w m (doc K V i)
theorem look_ok {w : World} {r : Option Nat} {P : Pairs} (h : MapV w r P) (x : ByteArray) (hx : x.size ≤ 1048576) :
    (Instr.lookup 44 (.map r) (.string x) true).run Try.prog w = .ok (.tuple #[(match look P x with | none => .nilIface | some v => .iface 9 (.string v)), .bool (look P x).isSome]) w := by
  rcases h with ⟨rfl, rfl⟩ | ⟨b, n, D, rfl, _, hown, hr⟩
  · exact Maps.look_nil true law Try.underlying44 (zero20 w) (keyOf_string_mk Try.underlying9 (by unfold maxLen; omega))
  · obtain ⟨es, clock, hb, F, _, rfl⟩ := hown
    have hx' : x.size ≤ maxLen := by unfold maxLen; omega
    have hh := hr.has x
    rcases Maps.fit_look (c := true) law Try.underlying44 (zero20 w) hb F (keyOf_string_mk Try.underlying9 hx') with ⟨hrun, _, hat⟩ | ⟨e0, y, _, _, hrun, hRv, hat, _⟩
    · have hf := Maps.has_false_of_atKey hat
      rw [show (Lit.string x.data.toList) = kl x from rfl, hh] at hf
      cases hl : look P x with
      | some v => rw [hl] at hf; cases hf
      | none => exact hrun
    · have hf := Maps.has_true_of_atKey hat
      rw [show (Lit.string x.data.toList) = kl x from rfl, hh] at hf
      cases hl : look P x with
      | none => rw [hl] at hf; cases hf
      | some v =>
        obtain ⟨t, ht, hy⟩ := R_inv hRv
        have hp := hr.place x v hl .nil
        rw [show kl x = (Lit.string x.data.toList) from rfl, hat, hy] at hp
        have : t = v := el_inj hp
        rw [ht, this] at hrun
        exact hrun
theorem ta9_nil (w : World) : (Instr.typeAssert .nilIface 20 9 true).run Try.prog w = .ok (.tuple #[.string ByteArray.empty, .bool false]) w := by kernel_rfl
theorem ta9_str (s : ByteArray) (w : World) : (Instr.typeAssert (.iface 9 (.string s)) 20 9 true).run Try.prog w = .ok (.tuple #[.string s, .bool true]) w := by kernel_rfl
/-- How many entries, and whether there are any. -/
theorem len_ok {w : World} {r : Option Nat} {P : Pairs} (h : MapV w r P) : ∃ N : Nat, (Builtin.len_ #[44] 3 #[.map r]).run Try.prog w = .ok (.int .i64 N) w ∧ ∀ L : List ByteArray, L.Nodup → (∀ s, s ∈ L ↔ (look P s).isSome = true) → N = L.length := by
  rcases h with ⟨rfl, rfl⟩ | ⟨b, n, D, rfl, _, hown, hr⟩
  · refine ⟨0, by kernel_rfl, fun L _ h => ?_⟩
    cases L with
    | nil => rfl
    | cons s t => have := (h s).1 (by simp); cases this
  · exact ⟨Maps.size D, hown.len Try.underlying44 3, fun L hL hm => rep_size hr (hown.entries law) L hL hm⟩

theorem results_tmp4 {fn : Func} {t u v x : Tmp} (h : fn.results = #[.tmp t, .tmp u, .tmp v, .tmp x]) (tmps : Array Value) (P : Program) (w : World) :
    (results fn tmps).run P w = .ok (.tuple #[tmps.getD t undef, tmps.getD u undef, tmps.getD v undef, tmps.getD x undef]) w := by
  simp [results, h]
/-- What the caller hands in. -/
structure Flat (w : World) (a b p : Option Addr) (K V : List (List ByteArray)) (Q : List ByteArray) : Prop where
  gk : Grid w a K
  gv : Grid w b V
  rq : RowAt w p Q
  len : V.length = K.length
  rows : ∀ i, i < K.length → (V.getD i []).length = (K.getD i []).length
  smk : Sm K
  smv : Sm V
  sq : Q.length ≤ 1048576
  szq : ∀ i, i < Q.length → (Q.getD i ByteArray.empty).size ≤ 1048576
  sum : (docs K V).flatten.length ≤ 1048576
theorem Flat.below {w w' : World} {a b p : Option Addr} {K V : List (List ByteArray)} {Q : List ByteArray} (h : Flat w a b p K V Q) (hb : Below w.heap.size w w') : Flat w' a b p K V Q :=
  ⟨h.gk.below hb, h.gv.below hb, h.rq.below hb, h.len, h.rows, h.smk, h.smv, h.sq, h.szq, h.sum⟩
theorem zip_take {k v : List ByteArray} (hl : v.length = k.length) (j : Nat) (h : j < k.length) : (k.zip v).take (j + 1) = (k.zip v).take j ++ [(k.getD j ByteArray.empty, v.getD j ByteArray.empty)] := by
  rw [List.take_succ_eq_append_getElem (by simp; omega)]
  simp [h, show j < v.length by omega]

set_option maxRecDepth 100000 in
set_option maxHeartbeats 3200000 in
theorem flat_any (a b p : Option Addr) (ca cb cp : Nat) (K V : List (List ByteArray)) (Q : List ByteArray) (P : Pairs) (w : World) (hf : Flat w a b p K V Q) (hP : P = (docs K V).flatten) :
    Calls Try.prog 11 #[.slice a K.length ca, .slice b V.length cb, .slice p Q.length cp] w fun e w' => ∃ g1 g2 N, e = .returned (.tuple #[.slice (some ⟨g1, 0, none⟩) Q.length Q.length, .slice (some ⟨g2, 0, none⟩) Q.length Q.length, .int .i64 (N : Nat), .bool (decide (P = []))]) ∧ w.heap.size ≤ g1 ∧ w.heap.size ≤ g2 ∧
      (∀ j, j < Q.length → w'.cell? ⟨g1, j, none⟩ = some (.string ((look P (Q.getD j ByteArray.empty)).getD ByteArray.empty)) ∧ w'.cell? ⟨g2, j, none⟩ = some (.bool (look P (Q.getD j ByteArray.empty)).isSome)) ∧
      (∀ L : List ByteArray, L.Nodup → (∀ s, s ∈ L ↔ (look P s).isSome = true) → N = L.length) ∧ Below w.heap.size w w' := by
  have HP : Aside (P = (docs K V).flatten) := hP
  clear hP
  obtain ⟨i44, hi44, hz440, hz441, hz442⟩ := info_parts info44'
  obtain ⟨i9, hi9, hz90, hz91, hz92⟩ := info_parts info9'
  obtain ⟨i4, hi4, hz40, hz41, hz42⟩ := info_parts info4'
  have hn := hf.smk.1
  have hq := hf.sq
  have hvl := hf.len
  rw [hvl]
  obtain ⟨n, hnn⟩ : ∃ n, n = K.length := ⟨_, rfl⟩
  obtain ⟨q, hqq⟩ : ∃ q, q = Q.length := ⟨_, rfl⟩
  rw [← hnn] at hn ⊢
  rw [← hqq] at hq ⊢
  have HF : Aside (Flat w a b p K V Q) := hf
  have HN : Aside (n = K.length ∧ q = Q.length) := ⟨hnn, hqq⟩
  clear hf hnn hqq hvl
  go_enter Try.func11, Try.ntmps11
  go_wp2_with (at_make; refine wpList_make_full _ rfl (.tmp 23) (.tmp 23) 43 rfl w.heap.size 44 i44 (.map none) 1 Try.underlying43 hi44 hz440 hz441 _ _ _ _ n rfl rfl rfl rfl (by rw [hz442]; omega) (by unfold maxLen; omega) (Nat.le_refl _) ?_; intro w1 hown1 hgrow1)
  have hb1 : Below w.heap.size w w1 := (Below.refl _ _).grown hgrow1 (Nat.le_refl _) (by intro k hk; cases hk)
  clear hgrow1
  go_loopg [27] n (fun g i wr => ∃ (k : Nat) (cs : List Value), k ≤ n ∧ i = .int .i64 k ∧ Aside (n - k ≤ g ∧ DPart wr k K V cs ∧ ∀ j, k ≤ j → j < n → cs[j]? = some (.map none)) ∧ wr.ownsRow w.heap.size 44 1 (.slice (some ⟨w.heap.size, 0, none⟩) n n) n cs ∧ Below w.heap.size w wr)
  case atStart =>
    refine ⟨0, _, Nat.zero_le _, rfl, ⟨Nat.le_refl _, fun i h => absurd h (Nat.not_lt_zero _), fun j _ hj => ?_⟩, hown1, hb1⟩
    have e : (madeCells (Value.map none).cells (n * 1)).toList = List.replicate n (.map none) := by rw [Nat.mul_one]; exact toList_madeCells_one _ _
    rw [e, List.getElem?_replicate, if_pos hj]
  case round =>
    clear hown1 hb1
    rename World => wo
    obtain ⟨k, cs, hk, rfl, hE, hown, hbel⟩ := hrel
    by_cases hlt : k < n
    · obtain ⟨x, r, c, rfl, hc, hrow⟩ := (HF.out.gk.below hbel) k (by rw [← HN.out.1]; exact hlt)
      obtain ⟨z, r2, c2, rfl, hc2, hrow2⟩ := (HF.out.gv.below hbel) k (by rw [HF.out.len, ← HN.out.1]; exact hlt)
      have hll := HF.out.rows k (by rw [← HN.out.1]; exact hlt)
      have hrl := HF.out.smk.2 k (by rw [← HN.out.1]; exact hlt)
      have hrl2 := HF.out.smv.2 k (by rw [HF.out.len, ← HN.out.1]; exact hlt)
      have HDOC : Aside (doc K V k = (K.getD k []).zip (V.getD k [])) := rfl
      generalize K.getD k [] = kk at *
      generalize V.getD k [] = vv at *
      have hA := (hown.lt _ rfl).2
      have hcA := hown.cellAt k (by omega)
      have hfA := hown.frozenAt k
      rw [hE.out.2.2 k (Nat.le_refl _) hlt] at hcA
      cases r with
      | none =>
        have hnil : kk = [] := by
          cases kk with
          | nil => rfl
          | cons s t => obtain ⟨y, e, _⟩ := hrow 0 (by simp); cases e
        subst hnil
        have heq2 := fun w => Lib.run_eql_slice_nil (P := Try.prog) w 25 9 none 0 c 0 0 Try.underlying25
        go_wp2
        go_roundg (n - (k + 1))
        case measure => have := hE.out.1; omega
        case rel =>
          refine ⟨k + 1, cs, by omega, by go_num, ⟨Nat.le_refl _, fun i hi => ?_, fun j hj hjl => hE.out.2.2 j (by omega) hjl⟩, hown, hbel⟩
          by_cases ei : i = k
          · subst ei
            exact ⟨none, hE.out.2.2 i (Nat.le_refl _) hlt, Or.inl ⟨rfl, by rw [HDOC.out]; rfl⟩⟩
          · exact hE.out.2.1 i (by omega)
      | some y =>
        have heq2 := fun w => Lib.run_eql_slice_nil (P := Try.prog) w 25 9 (some y) kk.length c 0 0 Try.underlying25
        have HROW : Aside (RowAt wo (some y) kk ∧ RowAt wo r2 vv) := ⟨hrow, hrow2⟩
        have hkl := hrl.1
        have HSZ : Aside (∀ j, j < kk.length → (kk.getD j ByteArray.empty).size ≤ 1048576) := hrl.2
        have HSLOT : Aside (wo.cell? ⟨w.heap.size, k, none⟩ = some (.map none) ∧ wo.frozen? ⟨w.heap.size, k, none⟩ = false) := ⟨hcA, hfA⟩
        clear hrow hrow2 hrl hrl2 hcA hfA
        obtain ⟨wm, hwm⟩ : ∃ wm, wm = wo.alloc (.map #[] 0) := ⟨_, rfl⟩
        have hmm : ∀ n, (Instr.makeMap 44 (some (.int .i64 n))).run Try.prog wo = .ok (.map (some wo.heap.size)) wm := fun n => by rw [hwm]; exact mm_hint n wo
        have hbm : Below wo.heap.size wo wm := by rw [hwm]; exact (Below.refl _ _).alloc (Nat.le_refl _) _
        have hom : wm.ownsMap Try.prog 9 R wo.heap.size 0 (.map []) := by rw [hwm]; exact World.ownsMap_made wo Try.prog 9 R
        have hcm := (hbm.cell (p := x.add k) (block_lt_of_cell hc)).trans hc
        clear hwm
        go_wp2_with fail
        go_loopg [46] kk.length (fun g i wr => ∃ (j : Nat) (D : DataW Unit), j ≤ kk.length ∧ i = .int .i64 j ∧ wr.ownsMap Try.prog 9 R wo.heap.size j D ∧ Aside (kk.length - j ≤ g ∧ Rep D ((kk.zip vv).take j)) ∧ Below wo.heap.size wo wr)
        case atStart => exact ⟨0, .map [], Nat.zero_le _, rfl, hom, ⟨Nat.le_refl _, rep_nil⟩, hbm⟩
        case round =>
          clear hmm hbm hom hcm
          obtain ⟨j, D, hj, rfl, hmap, hE2, hbi⟩ := hrel
          have hc' := (hbi.cell (p := x.add k) (block_lt_of_cell hc)).trans hc
          have hc2' := (hbi.cell (p := z.add k) (block_lt_of_cell hc2)).trans hc2
          by_cases hjl : j < kk.length
          · obtain ⟨y', e, hck⟩ := (HROW.out.1.below hbi) j hjl
            cases e
            obtain ⟨y2, rfl, hcv⟩ := (HROW.out.2.below hbi) j (by omega)
            have HBY : (y.add j).block < wo.heap.size ∧ (y2.add j).block < wo.heap.size := by
              obtain ⟨q1, e1, h1⟩ := HROW.out.1 j hjl
              cases e1
              obtain ⟨q1, e1, h2⟩ := HROW.out.2 j (by omega)
              cases e1
              exact ⟨block_lt_of_cell h1, block_lt_of_cell h2⟩
            have hsz := HSZ.out j hjl
            have HZT : Aside _ := zip_take hll j hjl
            generalize kk.getD j ByteArray.empty = ks at *
            generalize vv.getD j ByteArray.empty = vs at *
            have hmapd : (wr.drew).ownsMap Try.prog 9 R wo.heap.size j D := hmap
            obtain ⟨w3, hrun, hmap3, hgrow3⟩ := hmapd.update law Try.underlying44 (by unfold maxLen; omega) (keyOf_string_mk (P := Try.prog) Try.underlying9 (s := ks) (by unfold maxLen; omega)) (R_mk vs)
            have hb3 : Below wo.heap.size wr w3 := ((Below.refl wo.heap.size wr).drew).grown hgrow3 hbi.size (fun k hk => by cases hk; exact Nat.le_refl _)
            have g1 := (hb3.cell (p := x.add k) (block_lt_of_cell hc)).trans hc'
            have g2 := (hb3.cell (p := z.add k) (block_lt_of_cell hc2)).trans hc2'
            have g3 := (hb3.cell (p := y.add j) HBY.1).trans hck
            have g4 := (hb3.cell (p := y2.add j) HBY.2).trans hcv
            have HNEW : Aside _ := And.intro hmap3 hb3
            clear hgrow3 hmap3 hb3 HBY
            have hjl' : (j : Int) < (kk.length : Int) := by omega
            have hjl2 : (j : Int) < (vv.length : Int) := by omega
            go_wp2_with fail
            go_region_held (fun w' => w'.cell? (x.add k) = some (.slice (some y) kk.length c) ∧ w'.cell? (z.add k) = some (.slice (some y2) vv.length c2) ∧ w'.cell? (y.add j) = some (.string ks) ∧ w'.cell? (y2.add j) = some (.string vs)) (go_keep) (fail)
            go_wp2
            go_roundg (kk.length - (j + 1))
            case measure => have := hE2.out.1; omega
            case rel => exact ⟨j + 1, _, by omega, by go_num, HNEW.out.1, ⟨Nat.le_refl _, by rw [HZT.out]; exact rep_put hE2.out.2 ks vs⟩, hbi.trans HNEW.out.2⟩
          · obtain rfl : j = kk.length := by omega
            have hs1 := (hbi.cell (p := ⟨w.heap.size, k, none⟩) hA).trans HSLOT.out.1
            have hs2 := (hbi.frozen (p := ⟨w.heap.size, k, none⟩) hA).trans HSLOT.out.2
            have HOW : Aside _ := (own_below hown hbi).stored k (.map (some wo.heap.size))
            have HAC : Aside (∃ cs, wr.heap[w.heap.size]? = some (.cells cs 44 (0, 0))) := by
              obtain ⟨cur, h1, _⟩ := own_cells' (own_below hown hbi)
              exact ⟨_, h1⟩
            go_wp2
            go_roundg (n - (k + 1))
            case measure => have := hE.out.1; omega
            case rel =>
              obtain ⟨cur, hcur⟩ := HAC.out
              have hcsl : cs.length = n := by have := hown.1; omega
              refine ⟨k + 1, _, by omega, by go_num, ⟨Nat.le_refl _, fun i hi => ?_, fun j hj hjl => ?_⟩, HOW.out.1, (hbel.trans (hbi.mono hbel.size)).setCell (Nat.le_refl _) _⟩
              · by_cases ei : i = k
                · subst ei
                  refine ⟨some wo.heap.size, by rw [List.getElem?_set_self (by omega)], ?_⟩
                  refine mapV_other (w := wr) ?_ HOW.out.2 hcur
                  refine Or.inr ⟨_, _, D, rfl, ?_, hmap, ?_⟩
                  · rw [HDOC.out, List.length_zip, hll]; exact Nat.le_of_eq (Nat.min_self _).symm
                  · have := hE2.out.2
                    rw [List.take_of_length_le (by rw [List.length_zip]; exact Nat.min_le_left _ _)] at this
                    rw [HDOC.out]; exact this
                · obtain ⟨m, e, h⟩ := hE.out.2.1 i (by omega)
                  exact ⟨m, by rw [List.getElem?_set_ne (by omega)]; exact e, mapV_other (h.below hbi) HOW.out.2 hcur⟩
              · rw [List.getElem?_set_ne (by omega)]; exact hE.out.2.2 j (by omega) hjl
    · obtain rfl : k = n := by omega
      have hA := (hown.lt _ rfl).2
      have hdocs : Docs wo w.heap.size k (docs K V) := ⟨by rw [docs_len, HN.out.1], fun i hi => by
        obtain ⟨m, e, hm⟩ := hE.out.2.1 i hi
        refine ⟨m, ?_, by rw [docs_get K V i (by rw [← HN.out.1]; exact hi)]; exact hm⟩
        rw [hown.cellAt i (by omega), e]⟩
      have HEF : Aside (Calls Try.prog 20 #[.slice (some ⟨w.heap.size, 0, none⟩) k k] wo _) := effective_any w.heap.size k k (docs K V) wo hn hA hdocs HF.out.sum
      have HBO : Aside (Below w.heap.size w wo) := hbel
      clear hdocs hE hown hA hk hlt hbel
      go_wp2_with (first
        | (go_at_call 20; refine HEF.out.mono ?_; rintro e w2 ⟨r, rfl, hmv, hnil, hb2⟩; clear HEF)
        | (at_make; refine wpList_make_full _ rfl (.tmp 74) (.tmp 74) 25 rfl w2.heap.size 9 i9 (.string ByteArray.empty) 1 Try.underlying25 hi9 hz90 hz91 _ _ _ _ q rfl rfl rfl rfl (by rw [hz92]; omega) (by unfold maxLen; omega) (Nat.le_refl _) ?_; intro w3 hown3 hgrow3)
        | (at_make; refine wpList_make_full _ rfl (.tmp 77) (.tmp 77) 30 rfl w3.heap.size 4 i4 (.bool false) 1 Try.underlying30 hi4 hz40 hz41 _ _ _ _ q rfl rfl rfl rfl (by rw [hz42]; omega) (by unfold maxLen; omega) (Nat.le_refl _) ?_; intro w4 hown4 hgrow4))
      have hb3 : Below w2.heap.size w2 w3 := (Below.refl _ _).grown hgrow3 (Nat.le_refl _) (by intro k hk; cases hk)
      have hb4 : Below w3.heap.size w3 w4 := (Below.refl _ _).grown hgrow4 (Nat.le_refl _) (by intro k hk; cases hk)
      have h23 : w2.heap.size < w3.heap.size := (hown3.lt _ rfl).2
      have HB2 : Aside (Below w.heap.size w w2) := HBO.out.trans (hb2.mono HBO.out.size)
      have HFQ : Aside (RowAt w2 p Q) := (HF.out.below HB2.out).rq
      have HSQ : Aside (∀ i, i < q → (Q.getD i ByteArray.empty).size ≤ 1048576) := fun i hi => HF.out.szq i (by rw [← HN.out.2]; exact hi)
      have HMV : Aside (MapV w2 r P) := by rw [HP.out]; exact hmv
      have HNIL : Aside (r = none ↔ P = []) := by rw [HP.out]; exact hnil
      clear hgrow3 hgrow4 hmv hnil HBO hb2
      go_loopg [81] q (fun g i wr => ∃ (k : Nat) (cs ds : List Value), k ≤ q ∧ i = .int .i64 k ∧ Aside (q - k ≤ g ∧ ∀ j, j < k → cs[j]? = some (.string ((look P (Q.getD j ByteArray.empty)).getD ByteArray.empty)) ∧ ds[j]? = some (.bool (look P (Q.getD j ByteArray.empty)).isSome)) ∧
          wr.ownsRow w2.heap.size 9 1 (.slice (some ⟨w2.heap.size, 0, none⟩) q q) q cs ∧ wr.ownsRow w3.heap.size 4 1 (.slice (some ⟨w3.heap.size, 0, none⟩) q q) q ds ∧ Below w2.heap.size w2 wr)
      case atStart => exact ⟨0, _, _, Nat.zero_le _, rfl, ⟨Nat.le_refl _, fun j h => absurd h (Nat.not_lt_zero _)⟩, own_below hown3 hb4, hown4, hb3.trans (hb4.mono hb3.size)⟩
      case round =>
        clear hown3 hown4 hb3 hb4
        obtain ⟨k, cs, ds, hk, rfl, hE, ho1, ho2, hbel⟩ := hrel
        by_cases hlt : k < q
        · obtain ⟨y, rfl, hc⟩ := (HFQ.out.below hbel) k (by rw [← HN.out.2]; exact hlt)
          have hsz := HSQ.out k hlt
          have hlk := look_ok (HMV.out.below hbel) (Q.getD k ByteArray.empty) hsz
          have hta1 := ta9_nil
          have hta2 := ta9_str
          have hA1 := (ho1.lt _ rfl).2
          have hA2 := (ho2.lt _ rfl).2
          have hl1 : cs.length = q := by have := ho1.1; omega
          have hl2 : ds.length = q := by have := ho2.1; omega
          have hcA := ho1.cellAt k (by omega)
          have hfA := ho1.frozenAt k
          rw [List.getElem?_eq_getElem (by omega)] at hcA
          have hcB := ho2.cellAt k (by omega)
          have hfB := ho2.frozenAt k
          rw [List.getElem?_eq_getElem (by omega)] at hcB
          have HLK : Aside (∃ o, look P (Q.getD k ByteArray.empty) = o) := ⟨_, rfl⟩
          obtain ⟨o, ho⟩ := HLK.out
          have HO : Aside (look P (Q.getD k ByteArray.empty) = o) := ho
          rw [ho] at hlk
          clear ho HLK
          generalize Q.getD k ByteArray.empty = s at hc hsz hlk
          have hne : w2.heap.size ≠ w3.heap.size := by omega
          cases o with
          | none =>
            go_wp2
            go_roundg (q - (k + 1))
            case measure => have := hE.out.1; omega
            case rel =>
              obtain ⟨p1, g1⟩ := ho1.stored k (.string ByteArray.empty)
              have p2 := ho2.kept g1 (Or.inr (by simp only [Value.ownBlock]; intro e; exact hne (Option.some.inj e).symm))
              obtain ⟨p3, g3⟩ := p2.stored k (.bool false)
              have p4 := p1.kept g3 (Or.inr (by simp only [Value.ownBlock]; intro e; exact hne (Option.some.inj e)))
              refine ⟨k + 1, _, _, by omega, by go_num, ⟨Nat.le_refl _, fun j hj => ?_⟩, p4, p3, (hbel.setCell (Nat.le_refl _) _).setCell (Nat.le_of_lt h23) _⟩
              by_cases e : j = k
              · subst e
                rw [HO.out, List.getElem?_set_self (by omega), List.getElem?_set_self (by omega)]
                exact ⟨rfl, rfl⟩
              · rw [List.getElem?_set_ne (by omega), List.getElem?_set_ne (by omega)]
                exact hE.out.2 j (by omega)
          | some v =>
            go_wp2
            go_roundg (q - (k + 1))
            case measure => have := hE.out.1; omega
            case rel =>
              obtain ⟨p1, g1⟩ := ho1.stored k (.string v)
              have p2 := ho2.kept g1 (Or.inr (by simp only [Value.ownBlock]; intro e; exact hne (Option.some.inj e).symm))
              obtain ⟨p3, g3⟩ := p2.stored k (.bool true)
              have p4 := p1.kept g3 (Or.inr (by simp only [Value.ownBlock]; intro e; exact hne (Option.some.inj e)))
              refine ⟨k + 1, _, _, by omega, by go_num, ⟨Nat.le_refl _, fun j hj => ?_⟩, p4, p3, (hbel.setCell (Nat.le_refl _) _).setCell (Nat.le_of_lt h23) _⟩
              by_cases e : j = k
              · subst e
                rw [HO.out, List.getElem?_set_self (by omega), List.getElem?_set_self (by omega)]
                exact ⟨rfl, rfl⟩
              · rw [List.getElem?_set_ne (by omega), List.getElem?_set_ne (by omega)]
                exact hE.out.2 j (by omega)
        · obtain rfl : k = q := by omega
          obtain ⟨N, hN, hNL⟩ := len_ok (HMV.out.below hbel)
          have HNL : Aside _ := hNL
          have hqn := fun w => run_eql_map_nil (P := Try.prog) w 44 9 20 r Try.underlying44
          clear hNL
          go_wp2
          refine bodyPost_ret (results_tmp4 rfl _ _ _) rfl ?_
          refine ⟨w2.heap.size, w3.heap.size, N, ?_, HB2.out.size, Nat.le_trans HB2.out.size (Nat.le_of_lt h23), fun j hj => ⟨?_, ?_⟩, HNL.out, HB2.out.trans (hbel.mono HB2.out.size)⟩
          · have e : r.isNone = decide (P = []) := by
              rw [Bool.eq_iff_iff, Option.isNone_iff_eq_none, decide_eq_true_eq]; exact HNIL.out
            rw [← e]; rfl
          · rw [ho1.cellAt j (by omega)]; exact (hE.out.2 j hj).1
          · rw [ho2.cellAt j (by omega)]; exact (hE.out.2 j hj).2
end Go.Proofs.Qxb6604637a
