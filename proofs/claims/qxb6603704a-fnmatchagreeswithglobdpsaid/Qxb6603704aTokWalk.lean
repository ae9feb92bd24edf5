/-
  THE WALK of zzb1Tokens (function 11).
-/
import Derived.Test.Qxb6603704aTokPlain
import Derived.Test.Qxb6603704aModelWalk
import Derived.Test.Qxb6603704aTab2
import Derived.Lib.IndexBytes
namespace Go.Proofs.Qxb6603704a
open Go.RowKit

theorem info3' : (Try.prog.info? 3).map (fun i => (i.zero, i.size, i.bytes)) = some (some (.int .i64 0), 1, 8) := by kernel_rfl
theorem info32' : (Try.prog.info? 32).map (fun i => (i.zero, i.size, i.bytes)) = some (some (.agg (Array.replicate 256 (.bool false))), 256, 256) := by kernel_rfl

def kCells (D : List G.Tok) : List Value := D.map fun t => Value.int .i64 (t.1 : Nat)
def sCells (D : List G.Tok) : List Value := D.flatMap fun t => (tab t.2).toList
/-- The two rows of elements. -/
structure Rows2 (B : Nat) (wx : World) (A1 A2 cap : Nat) (D : List G.Tok) : Prop where
  r1 : wx.ownsRow B 3 1 (.slice (some ⟨A1, 0, none⟩) D.length cap) D.length (kCells D)
  r2 : wx.ownsRow B 32 256 (.slice (some ⟨A2, 0, none⟩) D.length cap) D.length (sCells D)
theorem Rows2.alloc {B : Nat} {w : World} {A1 A2 cap : Nat} {D : List G.Tok} (h : Rows2 B w A1 A2 cap D) (o : Obj) : Rows2 B (w.alloc o) A1 A2 cap D := ⟨h.r1.alloc o, h.r2.alloc o⟩
theorem Rows2.grown {B : Nat} {w w' : World} {A1 A2 cap : Nat} {D : List G.Tok} {row : Option Nat} (h : Rows2 B w A1 A2 cap D) (hg : w.grownBy w' row) (h1 : some A1 ≠ row) (h2 : some A2 ≠ row) : Rows2 B w' A1 A2 cap D :=
  ⟨h.r1.kept hg (Or.inr h1), h.r2.kept hg (Or.inr h2)⟩
theorem below_grownBy {B : Nat} {w w' : World} (h : Below B w w') (hB : w.heap.size ≤ B) : w.grownBy w' none :=
  ⟨h.os, h.tape, h.output, h.size, fun k hk _ => h.block k (by omega)⟩
theorem Rows2.below {B B' : Nat} {w w' : World} {A1 A2 cap : Nat} {D : List G.Tok} (h : Rows2 B w A1 A2 cap D) (hb : Below B' w w') (hB : w.heap.size ≤ B') : Rows2 B w' A1 A2 cap D :=
  h.grown (below_grownBy hb hB) (by simp) (by simp)
theorem Rows2.lt1 {B : Nat} {w : World} {A1 A2 cap : Nat} {D : List G.Tok} (h : Rows2 B w A1 A2 cap D) : A1 < w.heap.size := (h.r1.lt _ rfl).2
theorem Rows2.lt2 {B : Nat} {w : World} {A1 A2 cap : Nat} {D : List G.Tok} (h : Rows2 B w A1 A2 cap D) : A2 < w.heap.size := (h.r2.lt _ rfl).2

theorem rows_snoc {B : Nat} {w1 w2 : World} {A1 A2 cap : Nat} {D : List G.Tok} {kd : Nat} {f : Nat → Bool} {o : Obj} (hA : A1 ≠ A2)
    (h3 : w1.ownsRow B 3 1 (.slice (some ⟨A1, 0, none⟩) (D.length + 1) cap) (D.length + 1) (kCells D ++ [.int .i64 kd])) (hg : (w1.alloc o).grownBy w2 (some A2))
    (h4 : w2.ownsRow B 32 256 (.slice (some ⟨A2, 0, none⟩) (D.length + 1) cap) (D.length + 1) (sCells D ++ (tab f).toList)) : Rows2 B w2 A1 A2 cap (D ++ [(kd, f)]) := by
  have e : (D ++ [(kd, f)]).length = D.length + 1 := by simp
  have e1 : kCells (D ++ [(kd, f)]) = kCells D ++ [.int .i64 kd] := by simp [kCells]
  have e2 : sCells (D ++ [(kd, f)]) = sCells D ++ (tab f).toList := by simp [sCells]
  refine ⟨?_, ?_⟩
  · rw [e, e1]; exact (h3.alloc o).kept hg (Or.inr (by simp [Value.ownBlock]; omega))
  · rw [e, e2]; exact h4
theorem tab_new (w : World) (f : Nat → Bool) : ∀ (j : Nat) (u : Value), (tab f).toList[j]? = some u → (w.alloc (.cells (tab f) 32)).cell? ((⟨w.heap.size, 0, none⟩ : Addr).add j) = some u := by
  intro j u hj
  have h := (HasTab.new w f).range j u hj
  rw [Nat.zero_add] at h
  rw [Addr.add_mid, Nat.zero_add]
  exact h

set_option maxRecDepth 100000 in
set_option maxHeartbeats 800000 in
theorem toks_any (s : ByteArray) (w : World) (hs : s.size ≤ 4096) :
    Calls Try.prog 11 #[.string s] w fun e w' => ∃ A1 A2, e = .returned (.tuple #[.slice (some ⟨A1, 0, none⟩) (G.toks s.data.toList 0).length s.size, .slice (some ⟨A2, 0, none⟩) (G.toks s.data.toList 0).length s.size]) ∧ A1 ≠ A2 ∧ Rows2 w.heap.size w' A1 A2 s.size (G.toks s.data.toList 0) ∧ Below w.heap.size w w' := by
  obtain ⟨i3, hi3, hz30, hz31, hz32⟩ := info_parts info3'
  obtain ⟨i32, hi32, hz320, hz321, hz322⟩ := info_parts info32'
  have z32 := zero32
  have tok1 : True := trivial
  go_enter Try.func11, Try.ntmps11
  go_upto_block 0 with (first | (at_make; have _t := tok1; refine wpList_make_own _ rfl (.const (.int .i64 0)) (.tmp 15) 23 rfl w.heap.size 3 i3 (.int .i64 0) 1 Try.underlying23 hi3 hz30 hz31 _ _ _ s.size rfl rfl rfl (by rw [hz32]; omega) (by unfold maxLen; omega) (Nat.le_refl _) ?_; intro w1 hown1 hgrow1; clear tok1) | (at_make; refine wpList_make_own _ rfl (.const (.int .i64 0)) (.tmp 18) 24 rfl w.heap.size 32 i32 (.agg (Array.replicate 256 (.bool false))) 256 Try.underlying24 hi32 hz320 hz321 _ _ _ s.size rfl rfl rfl (by rw [hz322]; omega) (by unfold maxLen; omega) hgrow1.size ?_; intro w2 hown2 hgrow2))
  have hrows0 : Rows2 w.heap.size w2 w.heap.size w1.heap.size s.size [] := ⟨hown1.kept hgrow2 (Or.inr (by simp [Value.ownBlock])), hown2⟩
  have hbel0 : Below w.heap.size w w2 := ((Below.refl _ _).grown hgrow1 (Nat.le_refl _) (by intro k hk; cases hk)).grown hgrow2 hgrow1.size (by intro k hk; cases hk)
  have hA : w.heap.size ≤ w.heap.size ∧ w.heap.size < w1.heap.size := ⟨Nat.le_refl _, (hown1.lt _ rfl).2⟩
  clear hown1 hown2 hgrow1 hgrow2
  obtain ⟨A1, hA1⟩ : ∃ A1, A1 = w.heap.size := ⟨_, rfl⟩
  obtain ⟨B, hB⟩ : ∃ B, B = w.heap.size := ⟨_, rfl⟩
  obtain ⟨A2, hA2⟩ : ∃ A2, A2 = w1.heap.size := ⟨_, rfl⟩
  have HB : Aside (B = w.heap.size ∧ A1 = w.heap.size) := ⟨hB, hA1⟩
  rw [← hA2]
  rw [← hA2] at hA hrows0
  rw [show (Value.slice (some { block := w.heap.size, off := 0 }) 0 s.size) = Value.slice (some { block := A1, off := 0 }) 0 s.size from by rw [hA1]]
  have hrows : Rows2 B w2 A1 A2 s.size [] := by rw [hB, hA1]; exact hrows0
  have hbel : Below B w w2 := by rw [hB]; exact hbel0
  have hA12 : A1 < A2 := by rw [hA1]; exact hA.2
  have hBA : B ≤ A1 := by rw [hB, hA1]; exact Nat.le_refl _
  clear hrows0 hbel0 hA hA1 hA2 hB
  go_wp2_with fail
  go_loopg [4, 5, 6] s.size (fun g a b i wr => ∃ (k : Nat) (D : List G.Tok), k ≤ s.size ∧ a = .slice (some ⟨A1, 0, none⟩) D.length s.size ∧ b = .slice (some ⟨A2, 0, none⟩) D.length s.size ∧ i = .int .i64 k ∧ Aside (D ++ G.toks s.data.toList k = G.toks s.data.toList 0 ∧ s.size - k ≤ g) ∧ Rows2 B wr A1 A2 s.size D ∧ Below B w wr)
  case atStart => exact ⟨0, [], Nat.zero_le _, rfl, rfl, rfl, ⟨rfl, Nat.le_refl _⟩, hrows, hbel⟩
  case round =>
    clear hrows hbel
    obtain ⟨k, D, hk, rfl, rfl, rfl, hE, hrows, hbel⟩ := hrel
    by_cases hlt : k < s.size
    · have hlt' : k < s.data.toList.length := by rw [len_l]; exact hlt
      have hstep : Aside (G.toks s.data.toList k = G.tokAt s.data.toList k :: G.toks s.data.toList (k + G.wAt s.data.toList k)) := G.toks_step _ _ hlt'
      have hDl : D.length + 1 ≤ s.size := by
        have e := congrArg List.length hE.out.1
        rw [List.length_append, hstep.out, List.length_cons] at e
        have := G.toks_len s.data.toList _ 0 rfl
        rw [len_l] at this
        omega
      have hwp := G.wAt_pos s.data.toList k
      have hwl := G.wAt_le s.data.toList k hlt'
      rw [len_l] at hwl
      go_upto_if 27 with fail
      have hS1 := hrows.lt1
      have hS2 := hrows.lt2
      have htab0 := HasTab.new wr (fun _ => false)
      have hrows0 := hrows.alloc (.cells (tab fun _ => false) 32)
      have hbel0 := hbel.alloc (by omega) (.cells (tab fun _ => false) 32)
      clear hrows hbel
      generalize wr.alloc (.cells (tab fun _ => false) 32) = wa at *
      generalize wr.heap.size = S at *
      go_cut [6, 8] from 20 to 68 (fun i kd wx => ∃ f, i = .int .i64 ((k + G.wAt s.data.toList k : Nat) : Int) ∧ kd = .int .i64 (G.tokAt s.data.toList k).1 ∧ Aside (f = (G.tokAt s.data.toList k).2) ∧ HasTab wx S f ∧ Rows2 B wx A1 A2 s.size D ∧ Below B w wx)
      case first =>
        have hbyt := byt_at s k hlt
        by_cases h42 : (s[k].toNat : Int) = 42
        · have HT : Aside _ := G.tokAt_star s.data.toList k (by rw [hbyt]; omega)
          have h42' : ((s[k].toNat : Int) == 42) = true := beq_iff_eq.mpr h42
          clear h42 hbyt
          go_wp2
          go_meet
          obtain ⟨t1, t2⟩ := HT.out
          exact ⟨_, vi (by rw [t2]; omega), vi (by rw [t1]; rfl), by rw [t1]; exact rfl, htab0, hrows0, hbel0⟩
        · have h42' : ((s[k].toNat : Int) == 42) = false := beq_eq_false_iff_ne.mpr h42
          by_cases h63 : (s[k].toNat : Int) = 63
          · have HT : Aside _ := G.tokAt_q s.data.toList k (by rw [hbyt]; omega)
            have h63' : ((s[k].toNat : Int) == 63) = true := beq_iff_eq.mpr h63
            clear h42 h63 hbyt
            go_wp2
            go_meet
            obtain ⟨t1, t2⟩ := HT.out
            exact ⟨_, vi (by rw [t2]; omega), vi (by rw [t1]; rfl), by rw [t1]; exact rfl, htab0, hrows0, hbel0⟩
          · have h63' : ((s[k].toNat : Int) == 63) = false := beq_eq_false_iff_ne.mpr h63
            by_cases h91 : (s[k].toNat : Int) = 91
            · have ht := G.tokAt_set s.data.toList k hlt' (by rw [hbyt]; omega)
              have h91' : ((s[k].toNat : Int) == 91) = true := beq_iff_eq.mpr h91
              have hm := model_any (s.extract k s.size) wa (by simp; omega) (by simp; omega)
              rw [Lib.extract_to_end] at hm
              generalize G.modelIn (s.data.toList.drop k) = f at *
              have hwm := ht.2
              rw [hwm] at hwl hwp
              generalize G.modelW (s.data.toList.drop k) = mw at *
              have HT : Aside _ := ht
              clear ht hwm h42 h63 h91 hbyt
              go_wp2_with fail
              refine hm.mono ?_
              rintro e w3 ⟨rfl, hb3⟩
              have hS := htab0.lt
              have htab3 := htab0.below hb3 hS
              have hrows3 := hrows0.below hb3 (Nat.le_refl _)
              have hbel3 := hbel0.trans (hb3.mono (by omega))
              have hsz3 := hb3.size
              clear hm htab0 hrows0 hbel0 hb3
              go_wp2_with (first | (refine wpList_store_tab rfl (.tmp 10) (.tmp 46) rfl w3.heap.size rfl (fun _ => false) f rfl (HasTab.new w3 _) ?_; intro w4 ht4 hg4) | (refine wpList_load_tab rfl (.tmp 10) rfl w3.heap.size rfl f ht4 ?_) | (refine wpList_store_tab rfl (.tmp 7) (.tmp 47) rfl S rfl (fun _ => false) f rfl ((htab3.alloc _).grown hg4 (by simp; omega)) ?_; intro w5 ht5 hg5))
              go_meet
              obtain ⟨t1, t2⟩ := HT.out
              refine ⟨f, vi (by rw [t2]; omega), vi (by rw [t1]; rfl), by rw [t1]; exact rfl, ht5, ?_, ?_⟩
              · exact ((hrows3.alloc _).grown hg4 (by simp; omega) (by simp; omega)).grown hg5 (by simp; omega) (by simp; omega)
              · exact ((hbel3.alloc (by omega) _).grown hg4 (by simp; omega) (by intro r hr; cases hr; omega)).grown hg5 (by have := hg4.size; simp at this; omega) (by intro r hr; cases hr; omega)
            · have ht := G.tokAt_atom s.data.toList k (by rw [hbyt]; omega) (by rw [hbyt]; omega) (by rw [hbyt]; omega)
              have h91' : ((s[k].toNat : Int) == 91) = false := beq_eq_false_iff_ne.mpr h91
              have hat := atom_any s k wa (by omega) hlt
              have hel := G.esc_lt s.data.toList k hlt'
              rw [len_l] at hel
              have hb8 := G.byt_le s.data.toList (G.esc s.data.toList k)
              generalize G.byt s.data.toList (G.esc s.data.toList k) = b at *
              generalize G.esc s.data.toList k = k1 at *
              have HT : Aside _ := ht
              clear ht h42 h63 h91 hbyt
              go_wp2_with fail
              refine hat.mono ?_
              rintro e w3 ⟨rfl, rfl⟩
              clear hat
              have hst := htab0.free b
              have hcl := htab0.cell b (by omega)
              go_wp2
              go_meet
              obtain ⟨t1, t2⟩ := HT.out
              exact ⟨_, vi (by rw [t2]; omega), vi (by rw [t1]; rfl), by rw [t1]; exact rfl, htab0.set b true, hrows0.grown (grown_set _ _ _) (by simp; omega) (by simp; omega), hbel0.setCell (by show B ≤ S; omega) _⟩
      case rest =>
        clear htab0 hrows0 hbel0
        obtain ⟨f, rfl, rfl, hF, htab, hrows, hbel⟩ := hcut
        obtain ⟨kd, hkd⟩ : ∃ kd, kd = (G.tokAt s.data.toList k).1 := ⟨_, rfl⟩
        rw [← hkd]
        have HT : Aside (G.tokAt s.data.toList k = (kd, f)) := by rw [hkd, hF.out]; exact rfl
        clear hkd hF
        have hkk : k < k + G.wAt s.data.toList k := by omega
        generalize k + G.wAt s.data.toList k = k' at *
        have hSc := htab.lt
        go_wp2_with (first | (at_builtin; refine wpList_append_fits _ rfl (.tmp 61) (.tmp 63) 23 rfl B 3 i3 1 Try.underlying23 hi3 hz31 A1 D.length s.size _ rfl (hrows.r1.alloc _) ⟨wc.heap.size, 0, none⟩ 1 1 [.int .i64 kd] rfl rfl (one_new _ _ _) (by intro u hu; simp at hu; subst hu; rfl) (by omega) ?_; intro w6 hown6 hg6) | (refine wpList_load_tab rfl (.tmp 7) rfl S rfl f ((htab.alloc _).grown hg6 (by simp; omega)) ?_) | (refine wpList_build_tab rfl (.tmp 66) rfl f rfl ?_) | (at_builtin; refine wpList_append_fits _ rfl (.tmp 65) (.tmp 67) 24 rfl B 32 i32 256 Try.underlying24 hi32 hz321 A2 D.length s.size _ rfl (((hrows.r2.alloc _).kept hg6 (Or.inr (by simp [Value.ownBlock]; omega))).alloc _) ⟨w6.heap.size, 0, none⟩ 1 1 (tab f).toList rfl (by rw [tab_len]) (tab_new _ _) (tab_one' f) (by omega) ?_; intro w7 hown7 hg7))
        have hrows7 := rows_snoc (by omega) hown6 hg7 hown7
        have hbel7 : Below B w w7 := (((hbel.alloc (by omega) _).grown hg6 (by simp; omega) (by intro r hr; cases hr; omega)).alloc (by have := hg6.size; simp at this; omega) _).grown hg7 (by have := hg6.size; simp at this; simp; omega) (by intro r hr; cases hr; omega)
        have hlen : (D ++ [(kd, f)]).length = D.length + 1 := by simp
        go_roundg (s.size - k')
        case measure => have := hE.out.2; omega
        case rel => exact ⟨k', D ++ [(kd, f)], hwl, by rw [hlen], by rw [hlen], rfl, ⟨by rw [List.append_assoc]; show D ++ ((kd, f) :: G.toks s.data.toList k') = _; rw [← HT.out, ← hstep.out]; exact hE.out.1, Nat.le_refl _⟩, hrows7, hbel7⟩
    · go_wp2
      go_ret2
      have e1 := hE.out.1
      rw [G.toks_end _ _ (by rw [len_l]; exact hlt), List.append_nil] at e1
      subst e1
      exact ⟨A1, A2, rfl, by omega, by rw [← HB.out.1]; exact hrows, by rw [← HB.out.1]; exact hbel⟩
end Go.Proofs.Qxb6603704a
