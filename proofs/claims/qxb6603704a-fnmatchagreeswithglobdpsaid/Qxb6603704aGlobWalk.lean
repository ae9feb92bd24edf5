/-
  THE WALK of zzb1Glob (function 13).
-/
import Derived.Test.Qxb6603704aBoolRow
namespace Go.Proofs.Qxb6603704a
open Go.RowKit

theorem made_false (n : Nat) : (madeCells (Value.bool false).cells (n * 1)).toList = List.replicate n (.bool false) := by
  rw [Nat.mul_one]; exact toList_madeCells_one _ n

/-- One more cell of a row, written from left to right. -/
theorem hasB_next {w : World} {b n q : Nat} {f g : Nat → Bool} {x : Bool} (h : HasB w b n (fun i => if i < q + 1 then f i else g i)) (hx : x = f (q + 1)) :
    HasB (w.setCell ⟨b, q + 1, none⟩ (.bool x)) b n (fun i => if i < q + 1 + 1 then f i else g i) := by
  refine (h.set (q + 1) x).congr (fun i _ => ?_)
  by_cases e : i = q + 1
  · subst e; rw [if_pos rfl, if_pos (by omega), hx]
  · rw [if_neg e]
    by_cases h2 : i < q + 1
    · rw [if_pos h2, if_pos (by omega)]
    · rw [if_neg h2, if_neg (by omega)]

set_option maxRecDepth 100000 in
set_option maxHeartbeats 800000 in
theorem glob_any (ts : List G.Tok) (m : Nat) (t : ByteArray) (A1 A2 cap : Nat) (w : World) (ht : t.size ≤ 4096) (hm : m ≤ 4096) (hA1 : A1 < w.heap.size) (hA2 : A2 < w.heap.size)
    (hk : ∀ j, j < m → w.cell? ⟨A1, j, none⟩ = some (.int .i64 (G.kd ts j))) (hsv : ∀ j c, j < m → c < 256 → w.cell? ⟨A2, j * 256 + c, none⟩ = some (.bool (G.tb ts j c))) :
    Calls Try.prog 13 #[.slice (some ⟨A1, 0, none⟩) m cap, .slice (some ⟨A2, 0, none⟩) m cap, .string t] w fun e w' => e = .returned (.bool (G.dp ts t.data.toList t.size m)) ∧ Below w.heap.size w w' := by
  obtain ⟨i4, hi4, hz40, hz41, hz42⟩ := info_parts info4'
  have HK : Aside (∀ j, j < m → w.cell? ⟨A1, j, none⟩ = some (.int .i64 (G.kd ts j))) := hk
  have HS : Aside (∀ j c, j < m → c < 256 → w.cell? ⟨A2, j * 256 + c, none⟩ = some (.bool (G.tb ts j c))) := hsv
  clear hk hsv
  have tok1 : True := trivial
  go_enter Try.func13, Try.ntmps13
  go_upto_region 4 with (first | (at_make; have _t := tok1; refine wpList_make_full _ rfl (.tmp 17) (.tmp 17) 38 rfl w.heap.size 4 i4 (.bool false) 1 Try.underlying38 hi4 hz40 hz41 _ _ _ _ (m + 1) rfl rfl (by omega) (by omega) (by rw [hz42]; omega) (by unfold maxLen; omega) (Nat.le_refl _) ?_; intro w1 hown1 hgrow1; clear tok1) | (at_make; refine wpList_make_full _ rfl (.tmp 20) (.tmp 20) 38 rfl w.heap.size 4 i4 (.bool false) 1 Try.underlying38 hi4 hz40 hz41 _ _ _ _ (m + 1) rfl rfl (by omega) (by omega) (by rw [hz42]; omega) (by unfold maxLen; omega) hgrow1.size ?_; intro w2 hown2 hgrow2))
  go_cut [8, 9] from 14 to 23 (fun a b wx => ∃ C N : Nat, a = .slice (some ⟨C, 0, none⟩) (m + 1) (m + 1) ∧ b = .slice (some ⟨N, 0, none⟩) (m + 1) (m + 1) ∧ w.heap.size ≤ C ∧ w.heap.size ≤ N ∧ C ≠ N ∧ HasB wx C (m + 1) (fun i => if i < 0 + 1 then G.row0 ts i else false) ∧ HasB wx N (m + 1) (fun _ => false) ∧ Below w.heap.size w wx)
  case first =>
    rw [made_false] at hown1 hown2
    have hb1 := hasB_made hown1 rfl
    have hb2 := hasB_made hown2 rfl
    have hb1' := hb1.grown hgrow2 (by simp)
    have hlt1 := hb1.lt
    have hbel : Below w.heap.size w w2 := ((Below.refl _ _).grown hgrow1 (Nat.le_refl _) (by intro k hk; cases hk)).grown hgrow2 hgrow1.size (by intro k hk; cases hk)
    have hc1 := hb1'.cell 0 (by omega)
    have hc2 := hb1'.free 0
    have hsz := hgrow1.size
    clear hown1 hown2 hgrow1 hgrow2 hb1
    go_wp2
    go_meet
    refine ⟨w.heap.size, w1.heap.size, rfl, rfl, Nat.le_refl _, hsz, by omega, (hb1'.set 0 true).congr (fun i _ => ?_), hb2.other _ _ (by simp; omega), hbel.setCell (Nat.le_refl _) _⟩
    by_cases e : i = 0
    · subst e; rfl
    · rw [if_neg e, if_neg (by omega)]
  case rest =>
    clear hown1 hown2 hgrow1 hgrow2
    obtain ⟨C, N, rfl, rfl, hC, hN, hCN, hbC, hbN, hbel⟩ := hcut
    go_wp2_with fail
    go_loopg [10] m (fun g js wr => ∃ q : Nat, q ≤ m ∧ js = .int .i64 ((q : Int) + 1) ∧ Aside (m - q ≤ g) ∧ HasB wr C (m + 1) (fun i => if i < q + 1 then G.row0 ts i else false) ∧ HasB wr N (m + 1) (fun _ => false) ∧ Below w.heap.size w wr)
    case atStart => exact ⟨0, Nat.zero_le _, rfl, Nat.le_refl _, hbC, hbN, hbel⟩
    case round =>
      clear hbC hbN hbel
      obtain ⟨q, hq, rfl, hg, hbC, hbN, hbel⟩ := hrel
      by_cases hlt : q < m
      · have hc1 := hbC.cell q (by omega)
        rw [if_pos (by omega)] at hc1
        have hc2 := hbC.cell (q + 1) (by omega)
        rw [if_neg (by omega)] at hc2
        have hc3 := hbC.free (q + 1)
        have hk1 := (hbel.cell (p := ⟨A1, q, none⟩) hA1).trans (HK.out q hlt)
        have HR : Aside (G.row0 ts (q + 1) = (G.row0 ts q && decide (G.kd ts q = 0))) := rfl
        generalize G.row0 ts q = v at hc1 HR
        generalize G.kd ts q = kd at *
        have hqi : (q : Int) < m := by omega
        cases v with
        | false =>
          go_wp2
          go_roundg (m - (q + 1))
          case measure => have := hg.out; omega
          case rel => exact ⟨q + 1, by omega, by go_num, Nat.le_refl _, hasB_next hbC (by rw [HR.out]; rfl), hbN.other _ _ (by simp; omega), hbel.setCell hC _⟩
        | true =>
          go_wp2
          go_roundg (m - (q + 1))
          case measure => have := hg.out; omega
          case rel => exact ⟨q + 1, by omega, by go_num, Nat.le_refl _, hasB_next hbC (by rw [HR.out, Bool.true_and, Bool.eq_iff_iff]; simp), hbN.other _ _ (by simp; omega), hbel.setCell hC _⟩
      · obtain rfl : q = m := by omega
        have hbX : HasB wr C (q + 1) (G.dp ts t.data.toList 0) := hbC.congr (fun i hi => by rw [if_pos hi]; rfl)
        clear hbC
        go_wp2_with fail
        go_loopg [8, 9, 11] t.size (fun g a b is wo => ∃ (i X Y : Nat) (f : Nat → Bool), i ≤ t.size ∧ a = .slice (some ⟨X, 0, none⟩) (q + 1) (q + 1) ∧ b = .slice (some ⟨Y, 0, none⟩) (q + 1) (q + 1) ∧ is = .int .i64 i ∧ w.heap.size ≤ X ∧ w.heap.size ≤ Y ∧ X ≠ Y ∧ Aside (t.size - i ≤ g) ∧ HasB wo X (q + 1) (G.dp ts t.data.toList i) ∧ HasB wo Y (q + 1) f ∧ Below w.heap.size w wo)
        case atStart => exact ⟨0, C, N, _, Nat.zero_le _, rfl, rfl, rfl, hC, hN, hCN, Nat.le_refl _, hbX, hbN, hbel⟩
        case round =>
          clear hbX hbN hbel hC hN hCN
          obtain ⟨i, X, Y, f, hi, rfl, rfl, rfl, hX, hY, hXY, hg2, hbX, hbY, hbel⟩ := hrel
          by_cases hlt2 : i < t.size
          · have hc1 := hbY.cell 0 (by omega)
            have hc2 := hbY.free 0
            have hch := u8_le t[i]
            have hbY0 := hbY.set 0 false
            have hbX0 := hbX.other ⟨Y, 0, none⟩ (.bool false) hXY
            have hbel0 := hbel.setCell (p := ⟨Y, 0, none⟩) hY (.bool false)
            have HDP : Aside (G.dp ts t.data.toList (i + 1) = G.rowN ts (G.dp ts t.data.toList i) t[i].toNat) := by
              show G.rowN ts (G.dp ts t.data.toList i) (G.byt t.data.toList i) = _
              rw [byt_at t i hlt2]
            generalize G.dp ts t.data.toList i = F at *
            have hbY1 : HasB (wr.setCell ⟨Y, 0, none⟩ (.bool false)) Y (q + 1) (fun x => if x < 0 + 1 then G.rowN ts F t[i].toNat x else f x) := hbY0.congr (fun x _ => by
              by_cases e : x = 0
              · subst e; rfl
              · rw [if_neg e, if_neg (by omega)])
            clear hbY hbX hbel hbY0
            go_wp2_with fail
            generalize wr.setCell ⟨Y, 0, none⟩ (.bool false) = wv at *
            go_loopg [13] q (fun g js wr => ∃ r : Nat, r ≤ q ∧ js = .int .i64 ((r : Int) + 1) ∧ Aside (q - r ≤ g) ∧ HasB wr X (q + 1) F ∧ HasB wr Y (q + 1) (fun x => if x < r + 1 then G.rowN ts F t[i].toNat x else f x) ∧ Below w.heap.size w wr)
            case atStart => exact ⟨0, Nat.zero_le _, rfl, Nat.le_refl _, hbX0, hbY1, hbel0⟩
            case round =>
              clear hbX0 hbY1 hbel0 hc1 hc2
              obtain ⟨r, hr, rfl, hg3, hbX, hbY, hbel⟩ := hrel
              by_cases hlt3 : r < q
              · have hx1 := hbX.cell r (by omega)
                have hx2 := hbX.cell (r + 1) (by omega)
                have hy1 := hbY.cell r (by omega)
                rw [if_pos (by omega)] at hy1
                have hy2 := hbY.cell (r + 1) (by omega)
                rw [if_neg (by omega)] at hy2
                have hy3 := hbY.free (r + 1)
                have hk1 := (hbel.cell (p := ⟨A1, r, none⟩) hA1).trans (HK.out r hlt3)
                have hs1 := (hbel.cell (p := ⟨A2, r * 256 + t[i].toNat, none⟩) hA2).trans (HS.out r t[i].toNat hlt3 (by omega))
                have HR : Aside (G.rowN ts F t[i].toNat (r + 1) = if G.kd ts r = 0 then G.rowN ts F t[i].toNat r || F (r + 1) else if G.kd ts r = 1 then F r else F r && G.tb ts r t[i].toNat) := rfl
                have hri : (r : Int) < q := by omega
                have hri2 : (r : Int) < q + 1 := by omega
                have hri3 : (r : Int) + 1 < q + 1 := by omega
                generalize G.rowN ts F t[i].toNat r = y at hy1 HR
                generalize F r = a at hx1 HR
                generalize F (r + 1) = b at hx2 HR
                generalize G.tb ts r t[i].toNat = sv at hs1 HR
                generalize G.kd ts r = kd at hk1 HR
                by_cases h0 : kd = 0
                · have h0' : ((kd : Int) == 0) = true := beq_iff_eq.mpr (by omega)
                  have HV : Aside (G.rowN ts F t[i].toNat (r + 1) = (y || b)) := by rw [HR.out, if_pos h0]; exact rfl
                  clear h0 HR
                  cases y with
                  | true =>
                    go_wp2
                    go_roundg (q - (r + 1))
                    case measure => have := hg3.out; omega
                    case rel => exact ⟨r + 1, by omega, by go_num, Nat.le_refl _, hbX.other _ _ hXY, hasB_next hbY (by rw [HV.out]; rfl), hbel.setCell hY _⟩
                  | false =>
                    go_wp2
                    go_roundg (q - (r + 1))
                    case measure => have := hg3.out; omega
                    case rel => exact ⟨r + 1, by omega, by go_num, Nat.le_refl _, hbX.other _ _ hXY, hasB_next hbY (by rw [HV.out]; rfl), hbel.setCell hY _⟩
                · have h0' : ((kd : Int) == 0) = false := beq_eq_false_iff_ne.mpr (by omega)
                  by_cases h1 : kd = 1
                  · have h1' : ((kd : Int) == 1) = true := beq_iff_eq.mpr (by omega)
                    have HV : Aside (G.rowN ts F t[i].toNat (r + 1) = a) := by rw [HR.out, if_neg h0, if_pos h1]; exact rfl
                    clear h0 h1 HR
                    go_wp2
                    go_roundg (q - (r + 1))
                    case measure => have := hg3.out; omega
                    case rel => exact ⟨r + 1, by omega, by go_num, Nat.le_refl _, hbX.other _ _ hXY, hasB_next hbY (by rw [HV.out]), hbel.setCell hY _⟩
                  · have h1' : ((kd : Int) == 1) = false := beq_eq_false_iff_ne.mpr (by omega)
                    have HV : Aside (G.rowN ts F t[i].toNat (r + 1) = (a && sv)) := by rw [HR.out, if_neg h0, if_neg h1]; exact rfl
                    clear h0 h1 HR
                    cases a with
                    | true =>
                      go_wp2
                      go_roundg (q - (r + 1))
                      case measure => have := hg3.out; omega
                      case rel => exact ⟨r + 1, by omega, by go_num, Nat.le_refl _, hbX.other _ _ hXY, hasB_next hbY (by rw [HV.out]; rfl), hbel.setCell hY _⟩
                    | false =>
                      go_wp2
                      go_roundg (q - (r + 1))
                      case measure => have := hg3.out; omega
                      case rel => exact ⟨r + 1, by omega, by go_num, Nat.le_refl _, hbX.other _ _ hXY, hasB_next hbY (by rw [HV.out]; rfl), hbel.setCell hY _⟩
              · obtain rfl : r = q := by omega
                have hbY' : HasB wr Y (r + 1) (G.dp ts t.data.toList (i + 1)) := hbY.congr (fun x hx => by rw [if_pos hx, HDP.out])
                go_wp2
                go_roundg (t.size - (i + 1))
                case measure => have := hg2.out; omega
                case rel => exact ⟨i + 1, Y, X, F, by omega, rfl, rfl, by go_num, hY, hX, fun e => hXY e.symm, Nat.le_refl _, hbY', hbX, hbel⟩
          · obtain rfl : i = t.size := by omega
            have hc1 := hbX.cell q (by omega)
            have hqi : (q : Int) < q + 1 := by omega
            go_wp2
            go_ret
            exact ⟨rfl, hbel⟩
end Go.Proofs.Qxb6603704a
