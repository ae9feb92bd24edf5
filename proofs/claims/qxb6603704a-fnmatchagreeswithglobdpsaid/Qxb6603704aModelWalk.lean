/-
  THE WALK of zzb1SetModel (function 17).
-/
import Derived.Test.Qxb6603704aTab
import Derived.Deep.CutBlock
import Derived.Deep.MidRow
import Derived.Deep.RegionHeld3
namespace Go.Proofs.Qxb6603704a
open Go.RowKit

theorem info5' : (Try.prog.info? 5).map (fun i => (i.zero, i.size, i.bytes)) = some (some (.int .u8 0), 1, 1) := by kernel_rfl
theorem info4' : (Try.prog.info? 4).map (fun i => (i.zero, i.size, i.bytes)) = some (some (.bool false), 1, 1) := by kernel_rfl

/-- The two tables, and what was there before the call. -/
structure St (w wx : World) (f g : Nat → Bool) : Prop where
  t3 : HasTab wx w.heap.size f
  t4 : HasTab wx (w.heap.size + 1) g
  bel : Below w.heap.size w wx
theorem St.alloc {w wx : World} {f g : Nat → Bool} (h : St w wx f g) (o : Obj) : St w (wx.alloc o) f g :=
  ⟨h.t3.alloc o, h.t4.alloc o, h.bel.alloc h.bel.size o⟩
theorem St.grown {w wx w' : World} {f g : Nat → Bool} {row : Option Nat} (h : St w wx f g) (hg : wx.grownBy w' row) (hr : ∀ k, row = some k → w.heap.size + 2 ≤ k) : St w w' f g :=
  ⟨h.t3.grown hg (fun e => by have := hr _ e.symm; omega), h.t4.grown hg (fun e => by have := hr _ e.symm; omega), h.bel.grown hg h.bel.size (fun k hk => by have := hr k hk; omega)⟩

def byteCells (D : List (Nat × Bool)) : List Value := D.map fun a => Value.int .u8 (a.1 : Nat)
def escCells (D : List (Nat × Bool)) : List Value := D.map fun a => Value.bool a.2
/-- The two rows of atoms. -/
structure Two (B : Nat) (wx : World) (A1 A2 cap : Nat) (D : List (Nat × Bool)) : Prop where
  r1 : wx.ownsRow B 5 1 (.slice (some ⟨A1, 0, none⟩) D.length cap) D.length (byteCells D)
  r2 : wx.ownsRow B 4 1 (.slice (some ⟨A2, 0, none⟩) D.length cap) D.length (escCells D)
theorem two_snoc {B : Nat} {w1 w2 : World} {A1 A2 cap : Nat} {D : List (Nat × Bool)} {b : Nat} {eb : Bool} {o : Obj} (hA : A1 ≠ A2)
    (h3 : w1.ownsRow B 5 1 (.slice (some ⟨A1, 0, none⟩) (D.length + 1) cap) (D.length + 1) (byteCells D ++ [.int .u8 b])) (hg : (w1.alloc o).grownBy w2 (some A2))
    (h4 : w2.ownsRow B 4 1 (.slice (some ⟨A2, 0, none⟩) (D.length + 1) cap) (D.length + 1) (escCells D ++ [.bool eb])) : Two B w2 A1 A2 cap (D ++ [(b, eb)]) := by
  have e : (D ++ [(b, eb)]).length = D.length + 1 := by simp
  have e1 : byteCells (D ++ [(b, eb)]) = byteCells D ++ [.int .u8 b] := by simp [byteCells]
  have e2 : escCells (D ++ [(b, eb)]) = escCells D ++ [.bool eb] := by simp [escCells]
  refine ⟨?_, ?_⟩
  · rw [e, e1]; exact (h3.alloc o).kept hg (Or.inr (by simp [Value.ownBlock]; omega))
  · rw [e, e2]; exact h4
theorem grown_set (w : World) (a : Addr) (u : Value) : w.grownBy (w.setCell a u) (some a.block) :=
  ⟨rfl, rfl, rfl, by simp [World.setCell], fun k _ hne => heap_setCell_other w a k u (fun e => hne (by rw [e]))⟩
theorem Two.grown {B : Nat} {w w' : World} {A1 A2 cap : Nat} {D : List (Nat × Bool)} {row : Option Nat} (h : Two B w A1 A2 cap D) (hg : w.grownBy w' row) (h1 : some A1 ≠ row) (h2 : some A2 ≠ row) : Two B w' A1 A2 cap D :=
  ⟨h.r1.kept hg (Or.inr h1), h.r2.kept hg (Or.inr h2)⟩
theorem Two.cell1 {B : Nat} {w : World} {A1 A2 cap : Nat} {D : List (Nat × Bool)} (h : Two B w A1 A2 cap D) (j : Nat) (hj : j < D.length) : w.cell? ⟨A1, j, none⟩ = some (.int .u8 (D.getD j (0, true)).1) := by
  rw [h.r1.cellAt j (by omega)]; simp [byteCells, hj]
theorem Two.cell2 {B : Nat} {w : World} {A1 A2 cap : Nat} {D : List (Nat × Bool)} (h : Two B w A1 A2 cap D) (j : Nat) (hj : j < D.length) : w.cell? ⟨A2, j, none⟩ = some (.bool (D.getD j (0, true)).2) := by
  rw [h.r2.cellAt j (by omega)]; simp [escCells, hj]

/-! ### small plain facts on a list of atoms -/
theorem atsF_le (l : List UInt8) : ∀ n k, ∀ a ∈ G.atsF l n k, a.1 ≤ 255 := by
  intro n
  induction n with
  | zero => intro k a ha; simp [G.atsF] at ha
  | succ n ih =>
    intro k a ha
    rw [G.atsF] at ha
    split at ha
    · rcases List.mem_cons.1 ha with rfl | h
      · exact G.byt_le _ _
      · exact ih _ a h
    · simp at ha
theorem getD_le {A : List (Nat × Bool)} (h : ∀ a ∈ A, a.1 ≤ 255) (j : Nat) : (A.getD j (0, true)).1 ≤ 255 := by
  rw [List.getD_eq_getElem?_getD]
  cases hq : A[j]? with
  | none => simp
  | some a => exact h a (List.mem_of_getElem? hq)
theorem drop_getD {A : List (Nat × Bool)} (j : Nat) (h : j < A.length) : A.drop j = A.getD j (0, true) :: A.drop (j + 1) := by
  rw [List.drop_eq_getElem_cons h, List.getD_eq_getElem?_getD, List.getElem?_eq_getElem h]; rfl
theorem drop_getD1 (A : List (Nat × Bool)) (j : Nat) : (A.drop j).getD 1 (0, true) = A.getD (j + 1) (0, true) := by
  rw [List.getD_eq_getElem?_getD, List.getD_eq_getElem?_getD, List.getElem?_drop]
theorem isR_a {A : List (Nat × Bool)} {j b : Nat} {e : Bool} (h : j + 2 < A.length) (hb : A.getD (j + 1) (0, true) = (b, e)) (h45 : (b : Int) = 45) : (!e) = G.isR (A.drop j) := by
  unfold G.isR; rw [drop_getD1, hb, List.length_drop]
  have h1 : 2 < A.length - j := by omega
  have h2 : b = 45 := by omega
  simp [h1, h2]
theorem isR_b {A : List (Nat × Bool)} {j b : Nat} {e : Bool} (hb : A.getD (j + 1) (0, true) = (b, e)) (h45 : ¬ (b : Int) = 45) : false = G.isR (A.drop j) := by
  unfold G.isR; rw [drop_getD1, hb]
  have h2 : ¬ b = 45 := by omega
  simp [h2]
theorem isR_c {A : List (Nat × Bool)} {j : Nat} (h : ¬ j + 2 < A.length) : false = G.isR (A.drop j) := by
  unfold G.isR; rw [List.length_drop]
  have h1 : ¬ 2 < A.length - j := by omega
  simp [h1]
theorem isR_len {A : List (Nat × Bool)} {j : Nat} (h : G.isR (A.drop j) = true) : j + 2 < A.length := by
  unfold G.isR at h; rw [List.length_drop] at h; simp at h; omega
theorem grp_R {A : List (Nat × Bool)} {j : Nat} (h : G.isR (A.drop j) = true) (c : Nat) : G.grp c (A.drop j) = (G.btw (A.getD j (0, true)).1 (A.getD (j + 2) (0, true)).1 c || G.grp c (A.drop (j + 3))) := by
  have hl := isR_len h
  have e : A.drop j = A.getD j (0, true) :: A.getD (j + 1) (0, true) :: A.getD (j + 2) (0, true) :: A.drop (j + 3) := by
    rw [drop_getD j (by omega), drop_getD (j + 1) (by omega), drop_getD (j + 1 + 1) (by omega)]
  unfold G.isR at h
  rw [drop_getD1] at h
  rw [e, G.grp_range]
  simp at h
  simpa using h.2
theorem grp_N {A : List (Nat × Bool)} {j : Nat} (hj : j < A.length) (h : G.isR (A.drop j) = false) (c : Nat) : G.grp c (A.drop j) = (G.btw (A.getD j (0, true)).1 (A.getD j (0, true)).1 c || G.grp c (A.drop (j + 1))) := by
  rw [drop_getD j hj] at h ⊢
  exact G.grp_one c _ _ h

theorem st_put {w wr : World} {z f : Nat → Bool} {neg X : Bool} {c : Nat} (h : St w wr z (fun i => decide (i < c) && (f i != neg))) (hX : X = (f c != neg)) :
    St w (wr.setCell ⟨w.heap.size + 1, c, none⟩ (.bool X)) z (fun i => decide (i < c + 1) && (f i != neg)) := by
  refine ⟨h.t3.other _ _ (by simp), (h.t4.set c X).congr (fun i _ => ?_), h.bel.setCell (by simp) _⟩
  by_cases e : i = c
  · subst e; rw [if_pos rfl, hX]; simp
  · rw [if_neg e]; congr 1; rw [Bool.eq_iff_iff]; simp; omega
theorem results_tmp_cell {fn : Func} {p u : Tmp} {ty : TypeId} (h : fn.results = #[.tmp u, .cell p ty]) (tmps : Array Value) (P : Program) (w : World) :
    (results fn tmps).run P w =
      ((asAddr (tmps.getD p undef)).run P w).andThen fun a w₁ => ((loadVar ty a).run P w₁).andThen fun v w₂ => .ok (.tuple #[tmps.getD u undef, v]) w₂ := by
  simp only [results, h]
  simp [Sem.run_bind, Result.andThen]
theorem bel_setCells {B b : Nat} {a : World} (hb : B ≤ b) : ∀ (vs : List Value) (o : Nat) (w : World), Below B a w → Below B a (w.setCells b o vs)
  | [], _, _, h => h
  | v :: r, o, _, h => bel_setCells hb r (o + 1) _ (h.setCell (p := ⟨b, o, none⟩) hb v)
theorem one_new (w : World) (a : Value) (e : TypeId) : ∀ (j : Nat) (u : Value), [a][j]? = some u → (w.alloc (.cells #[a] e)).cell? ((⟨w.heap.size, 0, none⟩ : Addr).add j) = some u := by
  intro j u hj
  match j, hj with
  | 0, hj => simp at hj; subst hj; simp [Addr.add]

theorem st0 (w : World) : St w ((w.alloc (.cells (tab fun _ => false) 32)).alloc (.cells (tab fun _ => false) 32)) (fun _ => false) (fun _ => false) := by
  refine ⟨(HasTab.new w _).alloc _, ?_, ((Below.refl _ _).alloc (Nat.le_refl _) _).alloc (by simp) _⟩
  have := HasTab.new (w.alloc (.cells (tab fun _ => false) 32)) (fun _ => false)
  rw [show (w.alloc (.cells (tab fun _ => false) 32)).heap.size = w.heap.size + 1 from by simp] at this
  exact this

set_option maxRecDepth 100000 in
set_option maxHeartbeats 2000000 in
theorem model_any (s : ByteArray) (w : World) (hs : s.size ≤ 200000) (h0 : 0 < s.size) :
    Calls Try.prog 17 #[.string s] w fun e w' => e = .returned (.tuple #[.int .i64 (G.modelW s.data.toList), .agg (tab (G.modelIn s.data.toList))]) ∧ Below w.heap.size w w' := by
  obtain ⟨i5, hi5, hz50, hz51, hz52⟩ := info_parts info5'
  obtain ⟨i4, hi4, hz40, hz41, hz42⟩ := info_parts info4'
  have z32 := zero32
  have hst0 := st0 w
  go_enter Try.func17, Try.ntmps17
  go_upto_region 4 with fail
  go_cut [27] from 20 to 27 (fun b wx => b = .bool (G.neg s.data.toList) ∧ St w wx (fun _ => false) (fun _ => false) ∧ wx.heap.size = w.heap.size + 2)
  case first =>
    by_cases h1 : 1 < s.size
    · go_wp2
      all_goals (go_meet; exact ⟨vb (neg_a s h1), hst0, by simp⟩)
    · have hd : decide ((1 : Int) < (s.size : Int)) = false := decide_eq_false (by omega)
      go_wp2
      all_goals (go_meet; exact ⟨vb (neg_b s h1), hst0, by simp⟩)
  case rest =>
    clear hst0
    obtain ⟨rfl, hst, hsz⟩ := hcut
    have HSZ : Aside (wc.heap.size = w.heap.size + 2) := hsz
    clear hsz
    go_upto_if 27 with fail
    go_cut [5, 6] from 20 to 27 (fun n b wx => n = .int .i64 (G.beg s.data.toList) ∧ b = .bool (G.neg s.data.toList) ∧ wc = wx)
    case first =>
      by_cases hN : G.neg s.data.toList = true
      · have e1 : Aside ((2 : Int) = (G.beg s.data.toList : Nat) ∧ true = G.neg s.data.toList) := ⟨beg_t _ hN, hN.symm⟩
        rw [hN]
        clear hN
        go_wp2
        go_meet; exact ⟨vi e1.out.1, vb e1.out.2, rfl⟩
      · have hN' : G.neg s.data.toList = false := by simpa using hN
        have e1 : Aside ((1 : Int) = (G.beg s.data.toList : Nat) ∧ false = G.neg s.data.toList) := ⟨beg_f _ hN', hN'.symm⟩
        rw [hN']
        clear hN hN'
        go_wp2
        go_meet; exact ⟨vi e1.out.1, vb e1.out.2, rfl⟩
    case rest =>
      obtain ⟨rfl, rfl, rfl⟩ := hcut
      have hbl := G.beg_le s.data.toList (by rw [len_l]; exact h0)
      rw [len_l] at hbl
      go_upto_block 0 with (first | (at_make; have _t := HSZ; refine wpList_make_own _ rfl (.const (.int .i64 0)) (.tmp 31) 28 rfl w.heap.size 5 i5 (.int .u8 0) 1 Try.underlying28 hi5 hz50 hz51 _ _ _ s.size rfl rfl rfl (by rw [hz52]; omega) (by unfold maxLen; omega) hst.bel.size ?_; intro w1 hown1 hgrow1) | (at_make; refine wpList_make_own _ rfl (.const (.int .i64 0)) (.tmp 34) 38 rfl w.heap.size 4 i4 (.bool false) 1 Try.underlying38 hi4 hz40 hz41 _ _ _ s.size rfl rfl rfl (by rw [hz42]; omega) (by unfold maxLen; omega) (by have := hst.bel.size; have := hgrow1.size; omega) ?_; intro w2 hown2 hgrow2))
      have hst2 : St w w2 (fun _ => false) (fun _ => false) := (hst.grown hgrow1 (by intro k hk; cases hk)).grown hgrow2 (by intro k hk; cases hk)
      have htwo2 : Two w.heap.size w2 wc.heap.size w1.heap.size s.size [] := ⟨hown1.kept hgrow2 (Or.inr (by simp [Value.ownBlock])), hown2⟩
      have hA : w.heap.size + 2 ≤ wc.heap.size ∧ wc.heap.size < w1.heap.size := ⟨Nat.le_of_eq HSZ.out.symm, (hown1.lt _ rfl).2⟩
      clear hown1 hown2 hgrow1 hgrow2 hst HSZ
      generalize wc.heap.size = A1 at *
      generalize w1.heap.size = A2 at *
      obtain ⟨hA1, hA2⟩ := hA
      go_cut [7, 8, 9] (fun wd a b wx => ∃ n : Nat, n ≤ s.size ∧ wd = .int .i64 (G.modelW s.data.toList) ∧ a = .slice (some ⟨A1, 0, none⟩) n s.size ∧ b = .slice (some ⟨A2, 0, none⟩) n s.size ∧ Aside (n = (G.ats s.data.toList (G.beg s.data.toList)).length) ∧ Two w.heap.size wx A1 A2 s.size (G.ats s.data.toList (G.beg s.data.toList)) ∧ St w wx (fun _ => false) (fun _ => false))
      case first =>
        go_wp2_with fail
        go_loopg [7, 8, 9, 10] s.size (fun g wd a b i wr => ∃ (k : Nat) (D : List (Nat × Bool)), k ≤ s.size ∧ wd = .int .i64 s.size ∧ a = .slice (some ⟨A1, 0, none⟩) D.length s.size ∧ b = .slice (some ⟨A2, 0, none⟩) D.length s.size ∧ i = .int .i64 k ∧ Aside (D ++ G.ats s.data.toList k = G.ats s.data.toList (G.beg s.data.toList) ∧ G.atEnd s.data.toList k = G.atEnd s.data.toList (G.beg s.data.toList) ∧ s.size - k ≤ g) ∧ Two w.heap.size wr A1 A2 s.size D ∧ St w wr (fun _ => false) (fun _ => false))
        case atStart => exact ⟨_, [], hbl, rfl, rfl, rfl, rfl, ⟨rfl, rfl, Nat.sub_le _ _⟩, htwo2, hst2⟩
        case round =>
          clear hst2 htwo2
          obtain ⟨k, D, hk, rfl, rfl, rfl, rfl, hE, htwo, hst⟩ := hrel
          have hDl : D.length + (G.ats s.data.toList k).length ≤ s.size := by
            have e := congrArg List.length hE.out.1
            rw [List.length_append] at e
            have := G.ats_len s.data.toList _ (G.beg s.data.toList) rfl
            rw [len_l] at this
            omega
          by_cases hlt : k < s.size
          · by_cases h93 : (s[k].toNat : Int) = 93
            · have hstop : Aside (G.ats s.data.toList k = [] ∧ G.atEnd s.data.toList k = k) := G.ats_stop _ _ (by rw [byt_at s k hlt]; omega)
              go_wp2
              go_meet
              obtain ⟨e1, e2, e3⟩ := hE.out
              obtain ⟨e4, e5⟩ := hstop.out
              rw [e4, List.append_nil] at e1
              exact ⟨D.length, by omega, vi (by unfold G.modelW; rw [← e2, e5, len_l, if_pos hlt]; omega), rfl, rfl, by rw [e1]; exact rfl, by rw [← e1]; exact htwo, hst⟩
            · have hstep : Aside (G.ats s.data.toList k = (G.byt s.data.toList (G.esc s.data.toList k), G.escB s.data.toList k) :: G.ats s.data.toList (G.esc s.data.toList k + 1) ∧ G.atEnd s.data.toList k = G.atEnd s.data.toList (G.esc s.data.toList k + 1)) :=
                G.ats_step _ _ (by rw [len_l]; exact hlt) (by rw [byt_at s k hlt]; omega)
              have hDl2 : D.length + 1 ≤ s.size := by rw [hstep.out.1, List.length_cons] at hDl; omega
              clear hDl
              have hat := atom_any s k wr hs hlt
              have hel := G.esc_lt s.data.toList k (by rw [len_l]; exact hlt)
              have heg := (G.esc_le s.data.toList k).1
              rw [len_l] at hel
              generalize G.esc s.data.toList k = k1 at *
              generalize G.escB s.data.toList k = eb at *
              have hb8 := G.byt_le s.data.toList k1
              generalize G.byt s.data.toList k1 = b1 at *
              have HAT : Aside (Calls Try.prog 18 #[.string s, .int .i64 k] wr fun e w' => e = .returned (.tuple #[.int .u8 b1, .bool eb, .int .i64 (k1 + 1)]) ∧ w' = wr) := hat
              clear hat
              go_wp2_with fail
              refine HAT.out.mono ?_
              rintro e w' ⟨rfl, rfl⟩
              go_wp2_with (first | (at_builtin; refine wpList_append_fits _ rfl (.tmp 54) (.tmp 56) 28 rfl w.heap.size 5 i5 1 Try.underlying28 hi5 hz51 A1 D.length s.size _ rfl (htwo.r1.alloc _) ⟨w'.heap.size, 0, none⟩ 1 1 [.int .u8 b1] rfl rfl (one_new _ _ _) (by intro u hu; simp at hu; subst hu; rfl) (by omega) ?_; intro w3 hown3 hgrow3) | (at_builtin; refine wpList_append_fits _ rfl (.tmp 58) (.tmp 60) 38 rfl w.heap.size 4 i4 1 Try.underlying38 hi4 hz41 A2 D.length s.size _ rfl (((htwo.r2.alloc _).kept hgrow3 (Or.inr (by simp [Value.ownBlock]; omega))).alloc _) ⟨w3.heap.size, 0, none⟩ 1 1 [.bool eb] rfl rfl (one_new _ _ _) (by intro u hu; simp at hu; subst hu; rfl) (by omega) ?_; intro w4 hown4 hgrow4))
              have hst4 : St w w4 (fun _ => false) (fun _ => false) := (((hst.alloc _).grown hgrow3 (by intro r hr; cases hr; omega)).alloc _).grown hgrow4 (by intro r hr; cases hr; omega)
              have htwo4 := two_snoc (by omega) hown3 hgrow4 hown4
              have hlen : (D ++ [(b1, eb)]).length = D.length + 1 := by simp
              go_roundg (s.size - (k1 + 1))
              case measure => have := hE.out.2.2; omega
              case rel => exact ⟨k1 + 1, D ++ [(b1, eb)], by omega, rfl, by rw [hlen], by rw [hlen], by go_num, ⟨by rw [List.append_assoc]; show D ++ ((b1, eb) :: G.ats s.data.toList (k1 + 1)) = _; rw [← hstep.out.1]; exact hE.out.1, by rw [← hstep.out.2]; exact hE.out.2.1, Nat.le_refl _⟩, htwo4, hst4⟩
          · go_wp2
            go_meet
            obtain ⟨e1, e2, e3⟩ := hE.out
            obtain ⟨e4, e5⟩ := G.ats_stop s.data.toList k (by rw [len_l]; omega)
            rw [e4, List.append_nil] at e1
            exact ⟨D.length, by omega, vi (by unfold G.modelW; rw [← e2, e5, len_l, if_neg hlt]), rfl, rfl, by rw [e1]; exact rfl, by rw [← e1]; exact htwo, hst⟩
      case rest =>
        obtain ⟨n, hn, rfl, rfl, rfl, hN, htwo, hst⟩ := hcut
        clear hst2 htwo2
        have hF := (htwo.r2.lt _ rfl).2
        have hst' := hst.alloc (.cells (tab fun _ => false) 32)
        have htwo' : Two w.heap.size (wc.alloc (.cells (tab fun _ => false) 32)) A1 A2 s.size (G.ats s.data.toList (G.beg s.data.toList)) := ⟨htwo.r1.alloc _, htwo.r2.alloc _⟩
        have hfd := HasTab.new wc (fun _ => false)
        go_upto_block 2 with fail
        clear hst htwo
        have HA : Aside (∀ a ∈ G.ats s.data.toList (G.beg s.data.toList), a.1 ≤ 255) := atsF_le s.data.toList _ _
        generalize wc.alloc (.cells (tab fun _ => false) 32) = wf at *
        generalize wc.heap.size = F at *
        obtain ⟨A, hA0⟩ : ∃ A, A = G.ats s.data.toList (G.beg s.data.toList) := ⟨_, rfl⟩
        rw [← hA0] at hN htwo' HA
        have hA0 : Aside (A = G.ats s.data.toList (G.beg s.data.toList)) := hA0
        go_wp2_with fail
        go_loopg [15] n (fun g k wr => ∃ (j : Nat) (f : Nat → Bool), j ≤ n ∧ k = .int .i64 j ∧ Aside (∀ c, (f c || G.grp c (A.drop j)) = G.grp c A) ∧ Aside (n - j ≤ g) ∧ HasTab wr F f ∧ Two w.heap.size wr A1 A2 s.size A ∧ St w wr (fun _ => false) (fun _ => false))
        case atStart => exact ⟨0, _, Nat.zero_le _, rfl, fun c => by simp, Nat.le_refl _, hfd, htwo', hst'⟩
        case round =>
          clear hfd htwo' hst'
          obtain ⟨j, f, hj, rfl, hG, hg, hfd, htwo, hst⟩ := hrel
          obtain ⟨wo, rfl⟩ : ∃ wo : World, wo = wr := ⟨_, rfl⟩
          by_cases hlt : j < n
          · have hc1 := htwo.cell1 j (by rw [← hN.out]; exact hlt)
            have hle : (A.getD j (0, true)).1 ≤ 255 := getD_le HA.out j
            obtain ⟨a0, ha0⟩ : ∃ a0, a0 = (A.getD j (0, true)).1 := ⟨_, rfl⟩
            rw [← ha0] at hc1 hle
            have HA0 : Aside (a0 = (A.getD j (0, true)).1) := ha0
            clear ha0
            go_upto_region 23 with fail
            go_cut [92] from 63 to 116 (fun b wx => b = .bool (G.isR (A.drop j)) ∧ wo = wx)
            case first =>
              by_cases h2 : j + 2 < n
              · have hc2 := htwo.cell1 (j + 1) (by rw [← hN.out]; omega)
                have hc3 := htwo.cell2 (j + 1) (by rw [← hN.out]; omega)
                obtain ⟨x, hx⟩ : ∃ x, x = A.getD (j + 1) (0, true) := ⟨_, rfl⟩
                rw [← hx] at hc2 hc3
                have HX : Aside (x = A.getD (j + 1) (0, true)) := hx
                clear hx
                obtain ⟨b1, e1⟩ := x
                have h2i : (j : Int) + 2 < n := by omega
                have h1i : (j : Int) + 1 < n := by omega
                simp only at hc2 hc3
                by_cases h45 : (b1 : Int) = 45
                · have HI : Aside ((!e1) = G.isR (A.drop j)) := isR_a (by rw [← hN.out]; exact h2) HX.out.symm h45
                  have h45' : ((b1 : Int) == 45) = true := beq_iff_eq.mpr h45
                  clear h45
                  go_wp2
                  all_goals (go_meet; exact ⟨vb HI.out, rfl⟩)
                · have HI : Aside (false = G.isR (A.drop j)) := isR_b HX.out.symm h45
                  have h45' : ((b1 : Int) == 45) = false := beq_eq_false_iff_ne.mpr h45
                  clear h45
                  go_wp2
                  all_goals (go_meet; exact ⟨vb HI.out, rfl⟩)
              · have HI : Aside (false = G.isR (A.drop j)) := isR_c (by rw [← hN.out]; exact h2)
                have hd : decide ((j : Int) + 2 < (n : Int)) = false := decide_eq_false (by omega)
                go_wp2
                all_goals (go_meet; exact ⟨vb HI.out, rfl⟩)
            case rest =>
              obtain ⟨rfl, rfl⟩ := hcut
              go_upto_if 92 with fail
              go_cut [15, 17] from 63 to 116 (fun k hi wx => ∃ (j' h : Nat), j' ≤ n ∧ j < j' ∧ h ≤ 255 ∧ k = .int .i64 j' ∧ hi = .int .u8 h ∧ Aside (∀ c, G.grp c (A.drop j) = (G.btw a0 h c || G.grp c (A.drop j'))) ∧ wo = wx)
              case first =>
                by_cases hR : G.isR (A.drop j) = true
                · have h2 : j + 2 < n := by have := isR_len hR; rw [← hN.out] at this; exact this
                  have hc2 := htwo.cell1 (j + 2) (by rw [← hN.out]; omega)
                  have hGR : Aside (∀ c, _) := grp_R hR
                  have hle2 := getD_le HA.out (j + 2)
                  generalize A.getD (j + 2) (0, true) = x2 at *
                  obtain ⟨b2, e2⟩ := x2
                  simp only at hc2 hle2
                  have h2i : (j : Int) + 2 < n := by omega
                  rw [hR]
                  clear hR
                  go_wp2
                  go_meet
                  exact ⟨j + 3, b2, by omega, by omega, hle2, by go_num, rfl, by rw [HA0.out]; exact hGR.out, rfl⟩
                · have hR' : G.isR (A.drop j) = false := by simpa using hR
                  have hGN : Aside (∀ c, _) := grp_N (by rw [← hN.out]; exact hlt) hR'
                  rw [hR']
                  clear hR hR'
                  go_wp2
                  go_meet
                  exact ⟨j + 1, a0, by omega, by omega, hle, by go_num, rfl, by rw [HA0.out]; exact hGN.out, rfl⟩
              case rest =>
                obtain ⟨j', h, hj', hjj, hh, rfl, rfl, hGE, rfl⟩ := hcut
                clear hc1
                go_upto_if 104 with fail
                go_cut [16, 17] from 63 to 116 (fun lo hi wx => ∃ (x y : Nat), x ≤ y ∧ y ≤ 255 ∧ lo = .int .u8 x ∧ hi = .int .u8 y ∧ Aside (∀ c, G.btw a0 h c = decide (x ≤ c ∧ c < y + 1)) ∧ wo = wx)
                case first =>
                  by_cases hsw : h < a0
                  · have hd : (h : Int) < a0 := by omega
                    go_wp2
                    go_meet
                    exact ⟨h, a0, by omega, hle, rfl, rfl, fun c => by unfold G.btw; rw [Bool.eq_iff_iff]; simp; omega, rfl⟩
                  · have hd : ¬ (h : Int) < a0 := by omega
                    go_wp2
                    go_meet
                    exact ⟨a0, h, by omega, hh, rfl, rfl, fun c => by unfold G.btw; rw [Bool.eq_iff_iff]; simp; omega, rfl⟩
                case rest =>
                  obtain ⟨x, y, hxy, hy, rfl, rfl, hbt, rfl⟩ := hcut
                  go_wp2_with fail
                  go_loopg [18] 256 (fun g cs wr => ∃ c : Nat, x ≤ c ∧ c ≤ y + 1 ∧ cs = .int .i64 c ∧ Aside (y + 1 - c ≤ g) ∧ HasTab wr F (fun i => f i || decide (x ≤ i ∧ i < c)) ∧ Two w.heap.size wr A1 A2 s.size A ∧ St w wr (fun _ => false) (fun _ => false))
                  case atStart => exact ⟨x, Nat.le_refl _, by omega, rfl, show y + 1 - x ≤ 256 by omega, hfd.congr (fun i _ => by simp; intro _ _; omega), htwo, hst⟩
                  case round =>
                    clear hfd htwo hst
                    obtain ⟨c, hcx, hcy, rfl, hg2, hfd, htwo, hst⟩ := hrel
                    by_cases hcl : c ≤ y
                    · have hc1 := hfd.cell c (by omega)
                      have hc2 := hfd.free c
                      obtain ⟨v, hv⟩ : ∃ v, v = (f c || decide (x ≤ c ∧ c < c)) := ⟨_, rfl⟩
                      rw [← hv] at hc1
                      clear hv
                      go_wp2
                      go_roundg (y + 1 - (c + 1))
                      case measure => have := hg2.out; omega
                      case rel => exact ⟨c + 1, by omega, by omega, by go_num, Nat.le_refl _, (hfd.set c true).congr (fun i _ => by by_cases e : i = c; (subst e; rw [if_pos rfl]; simp; omega); (rw [if_neg e]; congr 1; rw [Bool.eq_iff_iff]; simp; omega)), htwo.grown (grown_set _ _ _) (by simp; omega) (by simp; omega), hst.grown (grown_set _ _ _) (by intro r hr; cases hr; show w.heap.size + 2 ≤ F; omega)⟩
                    · obtain rfl : c = y + 1 := by omega
                      go_wp2
                      go_roundg (n - j')
                      case measure => have := hg.out; omega
                      case rel => exact ⟨j', _, hj', rfl, fun c => by rw [← hG.out c, hGE.out c, hbt.out c, Bool.or_assoc], Nat.le_refl _, hfd, htwo, hst⟩
          · obtain rfl : j = n := by omega
            have hfin : Aside (∀ c, f c = G.grp c A) := fun c => by
              have := hG.out c
              rw [List.drop_of_length_le (by rw [← hN.out]; exact Nat.le_refl _)] at this
              rw [← this]; simp [G.grp]
            go_wp2_with fail
            go_loopg [19] 256 (fun g cs wr => ∃ c : Nat, c ≤ 256 ∧ cs = .int .i64 c ∧ Aside (256 - c ≤ g) ∧ HasTab wr F f ∧ St w wr (fun _ => false) (fun i => decide (i < c) && (f i != G.neg s.data.toList)))
            case atStart => exact ⟨0, by omega, rfl, Nat.le_refl _, hfd, ⟨hst.t3, hst.t4.congr (fun i _ => by simp), hst.bel⟩⟩
            case round =>
              clear hfd htwo hst
              obtain ⟨c, hc, rfl, hg2, hfd, hst⟩ := hrel
              by_cases hcl : c < 256
              · have hc1 := hfd.cell c hcl
                have hc2 := hst.t4.cell c hcl
                have hc3 := hst.t4.free c
                go_wp2
                go_roundg (256 - (c + 1))
                case measure => have := hg2.out; omega
                case rel => exact ⟨c + 1, by omega, by go_num, Nat.le_refl _, hfd.other _ _ (by show F ≠ w.heap.size + 1; omega), st_put hst (by first | rfl | (cases f c <;> cases G.neg s.data.toList <;> rfl))⟩
              · obtain rfl : c = 256 := by omega
                have ht4 : HasTab wr (w.heap.size + 1) (G.modelIn s.data.toList) := hst.t4.congr (fun i hi => by rw [decide_eq_true hi, Bool.true_and, hfin.out i, hA0.out]; rfl)
                have hu32 := Try.underlying32
                have hra : wr.rangeAt (w.heap.size + 1) 0 (tab (G.modelIn s.data.toList)).toList := ht4.range
                have hth : wr.there w.heap.size 0 256 := hst.t3.there
                have hl1 : (Try.prog.info? 32).map (·.size) = some (tab (G.modelIn s.data.toList)).toList.length := size32' (G.modelIn s.data.toList)
                have hl2 : (tab (G.modelIn s.data.toList)).toList.length = 256 := tab_len (G.modelIn s.data.toList)
                have hl3 := tab_one' (G.modelIn s.data.toList)
                obtain ⟨cs, hcs⟩ : ∃ cs, cs = (tab (G.modelIn s.data.toList)).toList := ⟨_, rfl⟩
                rw [← hcs] at hra hl1 hl2 hl3
                have HCS : Aside (cs = (tab (G.modelIn s.data.toList)).toList) := hcs
                clear hcs
                go_wp2_with fail
                go_region_held3 (fun w' => w'.rangeAt (w.heap.size + 1) 0 cs ∧ w'.there w.heap.size 0 256) (go_keep_ranges) (fail)
                go_wp2
                refine bodyPost_ret (v := .tuple #[.int .i64 (G.modelW s.data.toList), .agg cs.toArray]) ?_ rfl ⟨by rw [HCS.out], ?_⟩
                · rw [results_tmp_cell rfl]
                  have hld := run_loadVar_mid (P := Try.prog) (wr.drew.setCells w.heap.size 0 cs) w.heap.size 0 32 cs _ (World.rangeAt_setCells_same _ _ _ _ (by rw [hl2]; exact hth)) hu32 rfl hl1
                  simp [asAddr, Result.andThen, hld]
                · exact bel_setCells (Nat.le_refl _) cs 0 _ hst.bel.drew
end Go.Proofs.Qxb6603704a
