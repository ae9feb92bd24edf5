/-
  THE PLAIN SET MODEL: the atoms of a set, read off in one pass, then grouped into items: and that matchSet's one pass answers the same. No Go in sight.
-/
import Derived.Test.Qxb6603704aPlain
namespace Go.Proofs.Qxb6603704a
namespace G

/-- The atoms from k on: each byte, and whether it was escaped. At most n. -/
def atsF (l : List UInt8) : Nat → Nat → List (Nat × Bool)
  | 0, _ => []
  | n + 1, k => if k < l.length ∧ byt l k ≠ 93 then (byt l (esc l k), escB l k) :: atsF l n (esc l k + 1) else []
/-- Where they end. -/
def endF (l : List UInt8) : Nat → Nat → Nat
  | 0, k => k
  | n + 1, k => if k < l.length ∧ byt l k ≠ 93 then endF l n (esc l k + 1) else k
def ats (l : List UInt8) (k : Nat) : List (Nat × Bool) := atsF l (l.length - k) k
def atEnd (l : List UInt8) (k : Nat) : Nat := endF l (l.length - k) k

theorem atsF_fuel (l : List UInt8) : ∀ n m k, l.length - k ≤ n → l.length - k ≤ m → atsF l n k = atsF l m k ∧ endF l n k = endF l m k := by
  intro n
  induction n with
  | zero =>
    intro m k h1 _
    cases m with
    | zero => exact ⟨rfl, rfl⟩
    | succ m => rw [atsF, endF, atsF, endF, if_neg (by omega), if_neg (by omega)]; exact ⟨rfl, rfl⟩
  | succ n ih =>
    intro m k h1 h2
    by_cases h : k < l.length ∧ byt l k ≠ 93
    · cases m with
      | zero => omega
      | succ m =>
        have := (esc_le l k).1
        rw [atsF, endF, atsF, endF, if_pos h, if_pos h, if_pos h, if_pos h]
        obtain ⟨e1, e2⟩ := ih m (esc l k + 1) (by omega) (by omega)
        exact ⟨by rw [e1], e2⟩
    · cases m with
      | zero => rw [atsF, endF, atsF, endF, if_neg h, if_neg h]; exact ⟨rfl, rfl⟩
      | succ m => rw [atsF, endF, atsF, endF, if_neg h, if_neg h, if_neg h, if_neg h]; exact ⟨rfl, rfl⟩
theorem ats_step (l : List UInt8) (k : Nat) (h : k < l.length) (hb : byt l k ≠ 93) :
    ats l k = (byt l (esc l k), escB l k) :: ats l (esc l k + 1) ∧ atEnd l k = atEnd l (esc l k + 1) := by
  have := (esc_le l k).1
  unfold ats atEnd
  obtain ⟨m, hm⟩ : ∃ m, l.length - k = m + 1 := ⟨l.length - k - 1, by omega⟩
  obtain ⟨e1, e2⟩ := atsF_fuel l m (l.length - (esc l k + 1)) (esc l k + 1) (by omega) (by omega)
  rw [hm, atsF, endF, if_pos ⟨h, hb⟩, if_pos ⟨h, hb⟩, e1, e2]
  exact ⟨rfl, rfl⟩
theorem ats_stop (l : List UInt8) (k : Nat) (h : ¬ (k < l.length ∧ byt l k ≠ 93)) : ats l k = [] ∧ atEnd l k = k := by
  unfold ats atEnd
  cases l.length - k with
  | zero => exact ⟨rfl, rfl⟩
  | succ n => rw [atsF, endF, if_neg h, if_neg h]; exact ⟨rfl, rfl⟩
theorem ats_len (l : List UInt8) : ∀ n k, l.length - k = n → (ats l k).length ≤ l.length - k := by
  intro n
  induction n using Nat.strongRecOn with
  | _ n ih =>
    intro k hn
    by_cases h : k < l.length ∧ byt l k ≠ 93
    · have := (esc_le l k).1
      rw [(ats_step l k h.1 h.2).1, List.length_cons]
      have := ih (l.length - (esc l k + 1)) (by omega) (esc l k + 1) rfl
      omega
    · rw [(ats_stop l k h).1]; simp

/-- The items of a list of atoms, tried on c. -/
def grp (c : Nat) : List (Nat × Bool) → Bool
  | [] => false
  | [a] => btw a.1 a.1 c
  | [a, b] => btw a.1 a.1 c || btw b.1 b.1 c
  | a :: b :: d :: r => if b.1 = 45 ∧ b.2 = false then btw a.1 d.1 c || grp c r else btw a.1 a.1 c || grp c (b :: d :: r)
/-- Does a range open the list? -/
def isR (A : List (Nat × Bool)) : Bool := decide (2 < A.length) && (decide ((A.getD 1 (0, true)).1 = 45) && !(A.getD 1 (0, true)).2)
theorem grp_range (c : Nat) (a b d : Nat × Bool) (r : List (Nat × Bool)) (h : b.1 = 45 ∧ b.2 = false) : grp c (a :: b :: d :: r) = (btw a.1 d.1 c || grp c r) := by
  rw [grp, if_pos h]
theorem grp_one (c : Nat) (a : Nat × Bool) (r : List (Nat × Bool)) (h : isR (a :: r) = false) : grp c (a :: r) = (btw a.1 a.1 c || grp c r) := by
  match r, h with
  | [], _ => simp [grp]
  | [b], _ => simp [grp]
  | b :: d :: r, h =>
    rw [grp, if_neg]
    intro hh
    simp [isR, hh.1, hh.2] at h

/-- ONE PASS AND TWO PASSES AGREE. -/
theorem run_ats (l : List UInt8) (c : Nat) : ∀ n k f, l.length - k = n → run l c k f = (atEnd l k, f || grp c (ats l k)) := by
  intro n
  induction n using Nat.strongRecOn with
  | _ n ih =>
    intro k f hn
    by_cases h : k < l.length ∧ byt l k ≠ 93
    · obtain ⟨s1, s2⟩ := ats_step l k h.1 h.2
      have hk1 := (esc_le l k).1
      have hg := nxt_gt l k
      rw [run_step l c k f h.1 h.2]
      by_cases hr : rng l (esc l k) = true
      · have hr' := of_decide_eq_true hr
        have n45 : byt l (esc l k + 1) = 45 := hr'.2.1
        have e45 : escB l (esc l k + 1) = false := decide_eq_false (by omega)
        have ee : esc l (esc l k + 1) = esc l k + 1 := esc_f _ _ e45
        obtain ⟨t1, t2⟩ := ats_step l (esc l k + 1) (by omega) (by omega)
        rw [ee, e45, n45] at t1
        rw [ee] at t2
        obtain ⟨u1, u2⟩ := ats_step l (esc l k + 1 + 1) (by omega) (by show byt l (esc l k + 2) ≠ 93; exact hr'.2.2)
        have hx : hiIx l (esc l k) = esc l (esc l k + 1 + 1) := hiIx_t l (esc l k) hr
        have hn2 : nxt l k = esc l (esc l k + 1 + 1) + 1 := by unfold nxt; rw [hx]
        rw [ih (l.length - nxt l k) (by omega) (nxt l k) _ rfl, s1, s2, t1, t2, u1, u2, grp_range c _ _ _ _ ⟨rfl, rfl⟩, hn2]
        unfold hit
        rw [hx, Bool.or_assoc]
      · have hr0 : rng l (esc l k) = false := by simpa using hr
        have hx : hiIx l (esc l k) = esc l k := hiIx_f l (esc l k) hr0
        have hn2 : nxt l k = esc l k + 1 := by unfold nxt; rw [hx]
        rw [ih (l.length - nxt l k) (by omega) (nxt l k) _ rfl, s1, s2, hn2]
        have hnr : isR ((byt l (esc l k), escB l k) :: ats l (esc l k + 1)) = false := by
          cases hq : isR ((byt l (esc l k), escB l k) :: ats l (esc l k + 1)) with
          | false => rfl
          | true =>
            exfalso
            have hr1 := of_decide_eq_false hr0
            apply hr1
            by_cases g1 : esc l k + 1 < l.length ∧ byt l (esc l k + 1) ≠ 93
            · obtain ⟨t1, t2⟩ := ats_step l (esc l k + 1) g1.1 g1.2
              rw [t1] at hq
              by_cases g2 : escB l (esc l k + 1) = true
              · simp [isR, g2] at hq
              · have g2' : escB l (esc l k + 1) = false := by simpa using g2
                have ee : esc l (esc l k + 1) = esc l k + 1 := esc_f _ _ g2'
                rw [ee] at hq
                by_cases g3 : esc l k + 1 + 1 < l.length ∧ byt l (esc l k + 1 + 1) ≠ 93
                · simp [isR, g2'] at hq
                  exact ⟨g3.1, hq.2, g3.2⟩
                · rw [(ats_stop l _ g3).1] at hq
                  simp [isR] at hq
            · rw [(ats_stop l _ g1).1] at hq
              simp [isR] at hq
        rw [grp_one c _ _ hnr]
        unfold hit
        rw [hx, Bool.or_assoc]
    · rw [run_stop l c k f h, (ats_stop l k h).1, (ats_stop l k h).2]
      simp [grp]

def modelW (l : List UInt8) : Nat := if atEnd l (beg l) < l.length then atEnd l (beg l) + 1 else l.length
def modelIn (l : List UInt8) (c : Nat) : Bool := grp c (ats l (beg l)) != neg l
theorem atEnd_le (l : List UInt8) : ∀ n k, l.length - k = n → k ≤ l.length → atEnd l k ≤ l.length := by
  intro n k _ hk
  have h := run_ats l 0 (l.length - k) k false rfl
  have h2 : (run l 0 k false).1 ≤ l.length := scan_le l 0 _ _ _ hk
  rw [h] at h2; exact h2
theorem setW_model (l : List UInt8) (c : Nat) (h : 0 < l.length) : setW l c = modelW l := by
  unfold setW modelW setEnd
  rw [run_ats l c _ (beg l) false rfl]
  have := atEnd_le l _ (beg l) rfl (beg_le l h)
  show (if atEnd l (beg l) < l.length then atEnd l (beg l) + 1 else atEnd l (beg l)) = _
  split <;> omega
theorem setOk_model (l : List UInt8) (c : Nat) : setOk l c = modelIn l c := by
  unfold setOk modelIn
  rw [run_ats l c _ (beg l) false rfl]
  simp

end G
end Go.Proofs.Qxb6603704a
