/-
  THE WALKS of Merges (26), maps.Clone (28), own (25), MergeOwned (24), Merge (22), Effective (20), on maps that hold strings.
-/
import Derived.Test.Qxb6604637aRows
import Derived.Test.Qxb6604637aMapPlain
import Derived.WalkKit
import Derived.WalkSpells
import Derived.WalkLawsBesides
import Derived.OneCell
import Derived.Maps.RangeWalk
import Derived.Deep.DeepCutAuto
import Derived.Deep.CutBlock
import Derived.Laws.Externs
namespace Go.Proofs.Qxb6604637a
open Go.RowKit Go.Maps Go.WideMaps

theorem law : Keyed Try.prog 9 := string_keyed Try.underlying9
/-- How an element of such a map reads: a string in an interface, and nothing else. -/
def R (v : Value) : Option (DataW Unit × List MemPlace) :=
  match v with
  | .iface 9 (.string s) => some (el s, [])
  | _ => none
theorem R_mk (s : ByteArray) : R (.iface 9 (.string s)) = some (el s, []) := rfl
theorem R_inv {v : Value} {y : DataW Unit × List MemPlace} (h : R v = some y) : ∃ s, v = .iface 9 (.string s) ∧ y = (el s, []) := by
  unfold R at h
  split at h
  · exact ⟨_, rfl, by simpa using h.symm⟩
  · cases h

/-- The value m, in world w, is a map (nil or not) that reads as the pairs P. -/
def MapV (w : World) (m : Option Nat) (P : Pairs) : Prop := (m = none ∧ P = []) ∨ ∃ b n D, m = some b ∧ n ≤ P.length ∧ w.ownsMap Try.prog 9 R b n D ∧ Rep D P
theorem MapV.below {w w' : World} {m : Option Nat} {P : Pairs} (h : MapV w m P) (hb : Below w.heap.size w w') : MapV w' m P := by
  rcases h with h | ⟨b, n, D, rfl, hn, hown, hr⟩
  · exact Or.inl h
  · exact Or.inr ⟨b, n, D, rfl, hn, hown.kept (row := none) ⟨hb.os, hb.tape, hb.output, hb.size, fun k hk _ => hb.block k hk⟩ (by simp), hr⟩

/-! ### Merges: never, where the upper value is a string -/
theorem ta_nil (w : World) : (Instr.typeAssert .nilIface 20 44 true).run Try.prog w = .ok (.tuple #[.map none, .bool false]) w := by kernel_rfl
theorem ta_str (s : ByteArray) (w : World) : (Instr.typeAssert (.iface 9 (.string s)) 20 44 true).run Try.prog w = .ok (.tuple #[.map none, .bool false]) w := by kernel_rfl
theorem merges_nil (s : ByteArray) (w : World) :
    Calls Try.prog 26 #[.nilIface, .iface 9 (.string s)] w fun e w' => e = .returned (.tuple #[.map none, .map none, .bool false]) ∧ w' = w := by
  have h1 := ta_nil
  have h2 := ta_str s
  go_enter Try.func26, Try.ntmps26
  go_wp2
  go_ret3
  exact ⟨rfl, rfl⟩
theorem merges_str (t s : ByteArray) (w : World) :
    Calls Try.prog 26 #[.iface 9 (.string t), .iface 9 (.string s)] w fun e w' => e = .returned (.tuple #[.map none, .map none, .bool false]) ∧ w' = w := by
  have h1 := ta_str t
  have h2 := ta_str s
  go_enter Try.func26, Try.ntmps26
  go_wp2
  go_ret3
  exact ⟨rfl, rfl⟩

/-! ### maps.Clone, own -/
theorem run_clone {r : Nat} {es : Array MapEntry} {clock : Nat} (t : TypeId) (w : World) (hb : w.heap[r]? = some (.map es clock)) :
    (Extern.MapsClone.clone #[.iface t (.map (some r))]).run Try.prog w = .ok (.iface t (.map (some w.heap.size))) (w.alloc (.map es clock)) := by
  have e : Extern.MapsClone.clone #[.iface t (.map (some r))] = (getObj r >>= fun o => match o with
      | .map entries clock => (newObj (.map entries clock) >>= fun n => pure (.iface t (.map (some n))))
      | _ => stuck _) := rfl
  rw [e]
  simp [MapKept.run_getObj_map hb, Result.andThen, go_sem]
theorem ta_map (b : Nat) (w : World) : (Instr.typeAssert (.iface 44 (.map (some b))) 20 44 false).run Try.prog w = .ok (.map (some b)) w := by kernel_rfl
set_option maxHeartbeats 400000 in
theorem clone_map (b : Nat) (es : Array MapEntry) (clock : Nat) (w : World) (hb : w.heap[b]? = some (.map es clock)) :
    Calls Try.prog 28 #[.map (some b)] w fun e w' => e = .returned (.map (some w.heap.size)) ∧ w' = w.alloc (.map es clock) := by
  have hq := fun w => run_eql_map_nil (P := Try.prog) w 44 9 20 (some b) Try.underlying44
  have hta := ta_map
  have hcall : (callFunc 29 #[.iface 44 (.map (some b))]).run Try.prog w = .ok (.value (.iface 44 (.map (some w.heap.size)))) (w.alloc (.map es clock)) := by
    rw [run_callFunc_extern Try.func29 (by kernel_rfl) (by kernel_rfl) (by kernel_rfl) (e := Extern.MapsClone.clone) (by kernel_rfl), run_clone 44 w hb]; rfl
  go_enter Try.func28, Try.ntmps28
  go_wp2
  go_ret
  exact ⟨rfl, rfl⟩
/-- own, of a map that is not nil, where nothing is owned yet: a copy, and an empty record. -/
theorem own_some (b : Nat) (n : Nat) (D : DataW Unit) (w : World) (hown : w.ownsMap Try.prog 9 R b n D) :
    Calls Try.prog 25 #[.map (some b), .map none] w fun e w' => e = .returned (.tuple #[.map (some w.heap.size), .map (some (w.heap.size + 1))]) ∧ w'.ownsMap Try.prog 9 R w.heap.size n D ∧ w'.heap[w.heap.size + 1]? = some (.map #[] 0) ∧ Below w.heap.size w w' ∧ w'.heap.size = w.heap.size + 2 := by
  obtain ⟨es, clock, hb, F, hs, hD⟩ := hown
  have hq := fun w => run_eql_map_nil (P := Try.prog) w 44 9 20 (some b) Try.underlying44
  have hq2 := fun w => run_neq_map_nil (P := Try.prog) w 52 9 52 none Try.underlying52
  have HC : Aside (Calls Try.prog 28 #[.map (some b)] w fun e w' => e = .returned (.map (some w.heap.size)) ∧ w' = w.alloc (.map es clock)) := clone_map b es clock w hb
  have hmm := @run_makeMap Try.prog
  clear hb
  go_enter Try.func25, Try.ntmps25
  go_wp2_with fail
  refine HC.out.mono ?_
  rintro e w' ⟨rfl, rfl⟩
  go_wp2
  go_ret2
  refine ⟨rfl, ⟨es, clock, ?_, F, hs, hD⟩, ?_, ?_, by simp⟩
  · rw [heap_alloc_old _ _ (by simp)]; exact heap_alloc_new w _
  · have := heap_alloc_new (w.alloc (.map es clock)) (.map #[] 0)
    rw [show (w.alloc (.map es clock)).heap.size = w.heap.size + 1 from by simp] at this
    exact this
  · exact ((Below.refl _ _).alloc (Nat.le_refl _) _).alloc (by simp) _

/-! ### MergeOwned, nothing owned -/
theorem zero20 (w : World) : (zeroValue 20).run Try.prog w = .ok .nilIface w := by kernel_rfl
theorem key_inv {key : Value} {l : Lit} (h : keyOf Try.prog 9 key = some l) : ∃ x : ByteArray, key = .string x ∧ l = kl x ∧ x.size ≤ maxLen := string_of_keyOf Try.underlying9 h
/-- A look-up without 'ok': nil, or a string. -/
theorem look_str {w : World} {b n : Nat} {D : DataW Unit} (hown : w.ownsMap Try.prog 9 R b n D) (x : ByteArray) (hx : x.size ≤ maxLen) :
    (Instr.lookup 44 (.map (some b)) (.string x) false).run Try.prog w = .ok .nilIface w ∨ ∃ t, (Instr.lookup 44 (.map (some b)) (.string x) false).run Try.prog w = .ok (.iface 9 (.string t)) w := by
  obtain ⟨es, clock, hb, F, _, _⟩ := hown
  rcases Maps.fit_look (c := false) law Try.underlying44 (zero20 w) hb F (keyOf_string_mk Try.underlying9 hx) with ⟨hrun, _⟩ | ⟨e0, y, _, _, hrun, hRv, _⟩
  · exact Or.inl hrun
  · obtain ⟨t, ht, _⟩ := R_inv hRv
    rw [ht] at hrun
    exact Or.inr ⟨t, hrun⟩
theorem size_le {w : World} {b n : Nat} {D : DataW Unit} (hown : w.ownsMap Try.prog 9 R b n D) : Maps.size D ≤ n := by
  obtain ⟨es, clock, _, _, hs, rfl⟩ := hown
  rw [Maps.size_eq, length_read]; exact hs
/-- The empty record, in the kit's word. -/
theorem empty_owns {w : World} {b : Nat} (h : w.heap[b]? = some (.map #[] 0)) : w.ownsMap (H := Unit) Try.prog 9 (fun _ => none) b 0 (.map []) :=
  ⟨#[], 0, h, ⟨by simp, MapKept.stamped_empty 0, by simp⟩, Nat.le_refl _, rfl⟩

/-- The range's step, over such a map. -/
theorem wpList_next_str (w : World) {ops : Array Oper} {rest : List Oper} {o : Oper} {a : Act} {Q : Exit → Act → World → Prop} (hg : o.guard = none) (it : Operand) (hop : o.op = Op.next it false) (b r n : Nat) (D : DataW Unit) (left : Lit → Bool) (cnt : Nat)
    (hit : a.eval it = .pointer (some ⟨r, 0, none⟩)) (h : w.ranges Try.prog 9 R b r n D left cnt)
    (hDone : cnt = 0 → Aside (∀ l, left l = false) → wpList Try.prog ops Q rest (a.put o.dst (.tuple #[.bool false])) w)
    (hMore : ∀ (x c : ByteArray) (w' : World) (cnt' : Nat), x.size ≤ maxLen → Aside (∀ zd, D.atKey (kl x) zd = el c) → w'.ranges Try.prog 9 R b r n D (fun z => left z && !z.sameKey (kl x)) cnt' → cnt' < cnt →
      w.grownBy w' (some r) → w'.heap.size = w.heap.size → (Instr.entry (.pointer (some ⟨r, 0, none⟩))).run Try.prog w' = .ok (.tuple #[.string x, .iface 9 (.string c)]) w' → wpList Try.prog ops Q rest (a.put o.dst (.tuple #[.bool true, .string x, .iface 9 (.string c)])) w') :
    wpList Try.prog ops Q (o :: rest) a w :=
  wpList_next_ranges w hg it hop 9 law R Value.string (fun s => .iface 9 (.string s)) (fun key l hk => by obtain ⟨x, rfl, _⟩ := key_inv hk; exact ⟨x, rfl⟩) (fun v y hv => by obtain ⟨c, rfl, _⟩ := R_inv hv; exact ⟨c, rfl⟩)
    b r n D left cnt hit h hDone (fun x c l y w' cnt' hkey hlk hv hat hrg hlt hgr hsz hen => by
      obtain ⟨x', ex, rfl, hx⟩ := key_inv hkey
      cases ex
      obtain ⟨c', ec, rfl⟩ := R_inv hv
      cases ec
      exact hMore x c w' cnt' hx hat hrg hlt hgr hsz hen)

set_option maxRecDepth 100000 in
set_option maxHeartbeats 400000 in
theorem merge_both (bl nl bh nh : Nat) (Dl Dh : DataW Unit) (Pl Ph : Pairs) (w : World) (hl : w.ownsMap Try.prog 9 R bl nl Dl) (hh : w.ownsMap Try.prog 9 R bh nh Dh) (rl : Rep Dl Pl) (rh : Rep Dh Ph)
    (hnl : nl ≤ Pl.length) (hnh : nh ≤ Ph.length) (hsum : Pl.length + Ph.length ≤ 1048576) (sl : Maps.size Dl ≠ 0) (sh : Maps.size Dh ≠ 0) :
    Calls Try.prog 24 #[.map (some bl), .map none, .map (some bh)] w fun e w' => ∃ r r2, e = .returned (.tuple #[.map (some r), .map r2]) ∧ MapV w' (some r) (Pl ++ Ph) ∧ Below w.heap.size w w' := by
  have hszl := size_le hl
  have hszh := size_le hh
  have hsl : ((Maps.size Dl : Int) == 0) = false := beq_eq_false_iff_ne.mpr (by omega)
  have hsh : ((Maps.size Dh : Int) == 0) = false := beq_eq_false_iff_ne.mpr (by omega)
  have HO : Aside _ := own_some bl nl Dl w hl
  have HR : Aside (Rep Dl Pl ∧ Rep Dh Ph) := ⟨rl, rh⟩
  clear rl rh
  go_enter Try.func24, Try.ntmps24
  go_wp2_with (first | (refine wpList_len_own _ rfl (.tmp 17) 44 rfl 9 20 Try.underlying44 R bh nh Dh rfl hh ?_) | (refine wpList_len_own _ rfl (.tmp 23) 44 rfl 9 20 Try.underlying44 R bl nl Dl rfl hl ?_))
  have ho := HO.out
  refine Calls.mono ho ?_
  rintro e w1 ⟨rfl, hout, hrec, hbel, hsz⟩
  have hltl := hh.lt
  have hh1 := hh.kept (row := none) ⟨hbel.os, hbel.tape, hbel.output, hbel.size, fun k hk _ => hbel.block k hk⟩ (by simp)
  have hrec1 := empty_owns hrec
  clear ho HO hl hh hrec hsl hsh
  go_wp2_with (at_range; refine wpList_range_own _ rfl _ 44 rfl 9 20 law Try.underlying44 R bh nh Dh rfl hh1 ?_; intro w0 hrg0 hg0 hs0)
  go_frame
  have hout0 := hout.kept hg0 (by simp)
  have hrec0 := hrec1.kept hg0 (by simp)
  have hbel0 := hbel.grown hg0 hbel.size (by intro k hk; cases hk)
  have hI : w1.heap.size = w.heap.size + 2 := hsz
  rw [hI] at hrg0
  rw [hI]
  clear hout hrec1 hbel hh1 hg0 hI hsz
  go_loopg [10] (Maps.size Dh) (fun g _ wr => ∃ (left : Lit → Bool) (cnt n' : Nat) (Dout : DataW Unit), wr.ranges Try.prog 9 R bh (w.heap.size + 2) nh Dh left cnt ∧ wr.ownsMap Try.prog 9 R w.heap.size n' Dout ∧ Aside (n' + cnt ≤ nl + Maps.size Dh ∧ cnt ≤ g ∧ Mid Dl Dh left Dout) ∧ wr.ownsMap (H := Unit) Try.prog 9 (fun _ => none) (w.heap.size + 1) 0 (.map []) ∧ Below w.heap.size w wr)
  case atStart => exact ⟨_, _, nl, Dl, hrg0, hout0, ⟨Nat.le_refl _, Nat.le_refl _, mid_start HR.out.1⟩, hrec0, hbel0⟩
  case round =>
    clear hrg0 hout0 hrec0 hbel0 hs0
    obtain ⟨left, cnt, n', Dout, hrg, hout, hA, hrec, hbel⟩ := hrel
    go_wp2_with (at_next; refine wpList_next_str _ rfl _ rfl bh (w.heap.size + 2) nh Dh left cnt rfl hrg ?_ ?_)
    · intro hc0 HL
      go_wp2
      go_ret2
      obtain ⟨a1, a2, a3⟩ := hA.out
      exact ⟨_, _, rfl, Or.inr ⟨_, n', Dout, rfl, by rw [List.length_append]; omega, hout, mid_end a3 HL.out HR.out.1 HR.out.2⟩, hbel⟩
    · intro x c w2 cnt2 hxs HAT hrg2 hlt hg2 hs2 hen
      have hout2 := hout.kept hg2 (by simp)
      have hrec2 := hrec.kept hg2 (by simp)
      have hbel2 := hbel.grown hg2 hbel.size (by intro k hk; cases hk; omega)
      have hkey' := keyOf_string_mk (P := Try.prog) Try.underlying9 hxs
      clear hout hrec hbel hrg hg2
      have hn' := hA.out.1
      rcases look_str hout2 x hxs with hlk | ⟨t, hlk⟩
      · go_wp2_with fail
        refine (merges_nil c w2).mono ?_
        rintro e w' ⟨rfl, rfl⟩
        go_wp2_with (first | (at_mapUpdate; refine wpList_mapUpdate_own _ rfl _ _ _ 44 rfl 9 20 law Try.underlying44 R w.heap.size n' Dout rfl hout2 (by unfold maxLen; omega) _ _ _ rfl rfl hkey' _ [] (R_mk c) ?_; intro w3 hout3 hg3) | (at_delete; refine wpList_delete_own _ rfl _ _ 52 9 rfl 52 law Try.underlying52 (fun _ => none) (w.heap.size + 1) 0 (.map []) rfl (hrec2.kept hg3 (by simp)) _ _ rfl hkey' ?_; intro w4 hrec4 hturn4; go_frame))
        have hg4 := hturn4.grown
        have hout4 := hout3.kept hg4 (by simp)
        have hrg4 := (hrg2.kept hg3 (by simp; omega) (by simp)).kept hg4 (by simp; omega) (by simp)
        have hbel4 : Below w.heap.size w w4 := (hbel2.grown hg3 hbel2.size (by intro k hk; cases hk; exact Nat.le_refl _)).grown hg4 (Nat.le_trans hbel2.size hg3.size) (by intro k hk; cases hk; omega)
        obtain ⟨a1, a2, a3⟩ := hA.out
        go_roundg cnt2
        case measure => omega
        case rel => exact ⟨_, cnt2, n' + 1, _, hrg4, hout4, ⟨by omega, Nat.le_refl _, mid_step a3 x c HAT.out⟩, hrec4, hbel4⟩
      · go_wp2_with fail
        refine (merges_str t c w2).mono ?_
        rintro e w' ⟨rfl, rfl⟩
        go_wp2_with (first | (at_mapUpdate; refine wpList_mapUpdate_own _ rfl _ _ _ 44 rfl 9 20 law Try.underlying44 R w.heap.size n' Dout rfl hout2 (by unfold maxLen; omega) _ _ _ rfl rfl hkey' _ [] (R_mk c) ?_; intro w3 hout3 hg3) | (at_delete; refine wpList_delete_own _ rfl _ _ 52 9 rfl 52 law Try.underlying52 (fun _ => none) (w.heap.size + 1) 0 (.map []) rfl (hrec2.kept hg3 (by simp)) _ _ rfl hkey' ?_; intro w4 hrec4 hturn4; go_frame))
        have hg4 := hturn4.grown
        have hout4 := hout3.kept hg4 (by simp)
        have hrg4 := (hrg2.kept hg3 (by simp; omega) (by simp)).kept hg4 (by simp; omega) (by simp)
        have hbel4 : Below w.heap.size w w4 := (hbel2.grown hg3 hbel2.size (by intro k hk; cases hk; exact Nat.le_refl _)).grown hg4 (Nat.le_trans hbel2.size hg3.size) (by intro k hk; cases hk; omega)
        obtain ⟨a1, a2, a3⟩ := hA.out
        go_roundg cnt2
        case measure => omega
        case rel => exact ⟨_, cnt2, n' + 1, _, hrg4, hout4, ⟨by omega, Nat.le_refl _, mid_step a3 x c HAT.out⟩, hrec4, hbel4⟩
theorem size_zero {w : World} {b n : Nat} {D : DataW Unit} {P : Pairs} (hown : w.ownsMap Try.prog 9 R b n D) (hr : Rep D P) : Maps.size D = 0 ↔ P = [] := rep_zero hr (hown.entries law)

/-- The answer of a merge: a map that reads as both lists, the upper one last; nil where there is nothing. -/
def Merged (w : World) (lo : Option Nat) (Pl Ph : Pairs) (r : Option Nat) (w' : World) : Prop :=
  MapV w' r (Pl ++ Ph) ∧ ((lo = none ↔ Pl = []) → (r = none ↔ Pl ++ Ph = [])) ∧ Below w.heap.size w w'

/-- The upper map is empty. -/
theorem merge_lo (lo hi : Option Nat) (Pl Ph : Pairs) (w : World) (hl : MapV w lo Pl) (hh : MapV w hi Ph) (he : Ph = []) :
    Calls Try.prog 24 #[.map lo, .map none, .map hi] w fun e w' => ∃ r r2, e = .returned (.tuple #[.map r, .map r2]) ∧ Merged w lo Pl Ph r w' := by
  have HM : Aside (Merged w lo Pl Ph lo w) := ⟨by rw [he, List.append_nil]; exact hl, fun h => by rw [he, List.append_nil]; exact h, Below.refl _ _⟩
  rcases hh with ⟨rfl, _⟩ | ⟨b, n, D, rfl, hn, hown, hr⟩
  · clear hl he
    go_enter Try.func24, Try.ntmps24
    go_wp2
    go_ret2
    exact ⟨_, _, rfl, HM.out⟩
  · have hz : Maps.size D = 0 := (size_zero hown hr).2 he
    clear hl he hr
    go_enter Try.func24, Try.ntmps24
    go_wp2_with (refine wpList_len_own _ rfl (.tmp 17) 44 rfl 9 20 Try.underlying44 R b n D rfl hown ?_; rw [hz])
    go_ret2
    exact ⟨_, _, rfl, HM.out⟩
/-- The lower map is empty, the upper one is not. -/
theorem merge_hi (lo : Option Nat) (b n : Nat) (D : DataW Unit) (Pl Ph : Pairs) (w : World) (hl : MapV w lo Pl) (hn : n ≤ Ph.length) (hown : w.ownsMap Try.prog 9 R b n D) (hr : Rep D Ph) (he : Pl = []) (hne : Ph ≠ []) :
    Calls Try.prog 24 #[.map lo, .map none, .map (some b)] w fun e w' => ∃ r r2, e = .returned (.tuple #[.map r, .map r2]) ∧ Merged w lo Pl Ph r w' := by
  have HM : Aside (Merged w lo Pl Ph (some b) w) := ⟨by rw [he, List.nil_append]; exact Or.inr ⟨b, n, D, rfl, hn, hown, hr⟩, fun _ => by rw [he, List.nil_append]; simp [hne], Below.refl _ _⟩
  have hz : ((Maps.size D : Int) == 0) = false := beq_eq_false_iff_ne.mpr (fun e => hne ((size_zero hown hr).1 (by omega)))
  rcases hl with ⟨rfl, _⟩ | ⟨b2, n2, D2, rfl, hn2, hown2, hr2⟩
  · clear he hne hr
    go_enter Try.func24, Try.ntmps24
    go_wp2_with (refine wpList_len_own _ rfl (.tmp 17) 44 rfl 9 20 Try.underlying44 R b n D rfl hown ?_)
    go_ret2
    exact ⟨_, _, rfl, HM.out⟩
  · have hz2 : Maps.size D2 = 0 := (size_zero hown2 hr2).2 he
    clear he hne hr hr2
    go_enter Try.func24, Try.ntmps24
    go_wp2_with (first | (refine wpList_len_own _ rfl (.tmp 17) 44 rfl 9 20 Try.underlying44 R b n D rfl hown ?_) | (refine wpList_len_own _ rfl (.tmp 23) 44 rfl 9 20 Try.underlying44 R b2 n2 D2 rfl hown2 ?_; rw [hz2]))
    go_ret2
    exact ⟨_, _, rfl, HM.out⟩
theorem mergeOwned_any (lo hi : Option Nat) (Pl Ph : Pairs) (w : World) (hl : MapV w lo Pl) (hh : MapV w hi Ph) (hsum : Pl.length + Ph.length ≤ 1048576) :
    Calls Try.prog 24 #[.map lo, .map none, .map hi] w fun e w' => ∃ r r2, e = .returned (.tuple #[.map r, .map r2]) ∧ Merged w lo Pl Ph r w' := by
  by_cases he : Ph = []
  · exact merge_lo lo hi Pl Ph w hl hh he
  · rcases hh with ⟨_, e⟩ | ⟨bh, nh, Dh, rfl, hnh, hownh, hrh⟩
    · exact absurd e he
    · by_cases hp : Pl = []
      · exact merge_hi lo bh nh Dh Pl Ph w hl hnh hownh hrh hp he
      · rcases hl with ⟨_, e⟩ | ⟨bl, nl, Dl, rfl, hnl, hownl, hrl⟩
        · exact absurd e hp
        · refine (merge_both bl nl bh nh Dl Dh Pl Ph w hownl hownh hrl hrh hnl hnh hsum (fun e => hp ((size_zero hownl hrl).1 e)) (fun e => he ((size_zero hownh hrh).1 e))).mono ?_
          rintro e w' ⟨r, r2, rfl, hm, hb⟩
          exact ⟨some r, r2, rfl, hm, fun _ => by simp [hp], hb⟩
theorem merge_any (lo hi : Option Nat) (Pl Ph : Pairs) (w : World) (hl : MapV w lo Pl) (hh : MapV w hi Ph) (hsum : Pl.length + Ph.length ≤ 1048576) :
    Calls Try.prog 22 #[.map lo, .map hi] w fun e w' => ∃ r, e = .returned (.map r) ∧ Merged w lo Pl Ph r w' := by
  have HM : Aside (Calls Try.prog 24 #[.map lo, .map none, .map hi] w fun e w' => ∃ r r2, e = .returned (.tuple #[.map r, .map r2]) ∧ Merged w lo Pl Ph r w') := mergeOwned_any lo hi Pl Ph w hl hh hsum
  clear hl hh
  go_enter Try.func22, Try.ntmps22
  go_wp2_with fail
  refine HM.out.mono ?_
  rintro e w' ⟨r, r2, rfl, hm⟩
  go_wp2
  go_ret
  exact ⟨r, rfl, hm⟩

/-! ### Effective -/
/-- The documents: at place i of the slice a map (nil or not) that reads as the pairs docs[i]. -/
def Docs (w : World) (A n : Nat) (docs : List Pairs) : Prop := docs.length = n ∧ ∀ i, i < n → ∃ m, w.cell? ⟨A, i, none⟩ = some (.map m) ∧ MapV w m (docs.getD i [])
theorem Docs.below {w w' : World} {A n : Nat} {docs : List Pairs} (h : Docs w A n docs) (hb : Below w.heap.size w w') (hA : A < w.heap.size) : Docs w' A n docs :=
  ⟨h.1, fun i hi => by obtain ⟨m, hc, hm⟩ := h.2 i hi; exact ⟨m, (hb.cell (p := ⟨A, i, none⟩) hA).trans hc, hm.below hb⟩⟩
theorem flat_take (docs : List Pairs) (i : Nat) (h : i < docs.length) : (docs.take (i + 1)).flatten = (docs.take i).flatten ++ docs.getD i [] := by
  rw [List.take_succ_eq_append_getElem h, List.flatten_append, List.getD_eq_getElem?_getD, List.getElem?_eq_getElem h]; simp
theorem flat_le : ∀ (docs : List Pairs) (i : Nat), i < docs.length → (docs.take i).flatten.length + (docs.getD i []).length ≤ docs.flatten.length
  | [], i, h => by simp at h
  | d :: ds, 0, _ => by simp
  | d :: ds, i + 1, h => by
    have := flat_le ds i (by simpa using h)
    simp at this ⊢; omega

set_option maxRecDepth 100000 in
set_option maxHeartbeats 400000 in
theorem effective_any (A n cap : Nat) (docs : List Pairs) (w : World) (hn : n ≤ 1048576) (hA : A < w.heap.size) (hd : Docs w A n docs) (hsum : docs.flatten.length ≤ 1048576) :
    Calls Try.prog 20 #[.slice (some ⟨A, 0, none⟩) n cap] w fun e w' => ∃ r, e = .returned (.map r) ∧ MapV w' r docs.flatten ∧ (r = none ↔ docs.flatten = []) ∧ Below w.heap.size w w' := by
  have hdl := hd.1
  have HD : Aside (Docs w A n docs) := hd
  clear hd
  go_enter Try.func20, Try.ntmps20
  go_wp2
  go_loopg [3, 8] n (fun g o i wr => ∃ (k : Nat) (r : Option Nat), k ≤ n ∧ o = .map r ∧ i = .int .i64 k ∧ Aside (n - k ≤ g ∧ (r = none ↔ (docs.take k).flatten = [])) ∧ MapV wr r (docs.take k).flatten ∧ Below w.heap.size w wr)
  case atStart => exact ⟨0, none, Nat.zero_le _, rfl, rfl, ⟨Nat.le_refl _, by simp⟩, Or.inl ⟨rfl, rfl⟩, Below.refl _ _⟩
  case round =>
    obtain ⟨k, r, hk, rfl, rfl, hE, hm, hbel⟩ := hrel
    by_cases hlt : k < n
    · obtain ⟨m, hc, hmv⟩ := (HD.out.below (hbel.mono (Nat.le_refl _)) hA).2 k hlt
      have HM : Aside (Calls Try.prog 22 #[.map r, .map m] wr fun e w' => ∃ r', e = .returned (.map r') ∧ Merged wr r (docs.take k).flatten (docs.getD k []) r' w') := merge_any r m _ _ wr hm hmv (by have := flat_le docs k (by omega); omega)
      clear hm hmv
      go_wp2_with fail
      refine HM.out.mono ?_
      rintro e w2 ⟨r', rfl, hm2, hnil2, hb2⟩
      have hbel2 := hbel.trans (hb2.mono hbel.size)
      have HN : Aside _ := hnil2
      clear hnil2
      go_wp2
      go_roundg (n - (k + 1))
      case measure => have := hE.out.1; omega
      case rel => exact ⟨k + 1, r', by omega, rfl, by go_num, ⟨Nat.le_refl _, by rw [flat_take docs k (by omega)]; exact HN.out hE.out.2⟩, by rw [flat_take docs k (by omega)]; exact hm2, hbel2⟩
    · obtain rfl : k = n := by omega
      go_wp2
      go_ret
      have e := hE.out.2
      rw [List.take_of_length_le (by omega)] at e hm
      exact ⟨r, rfl, hm, e, hbel⟩
end Go.Proofs.Qxb6604637a
