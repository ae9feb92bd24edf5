/-
  THE PLAIN FUNCTION that Match computes: the loop with its one star to come back to, by position. No Go in sight.
-/
import Derived.Test.Qxb6603704aPlain
namespace Go.Proofs.Qxb6603704a
namespace G

/-- Match's loop: p in the pattern, n in the name; sp: one behind the last star (0: none yet), sn: how far that star reaches. At most f rounds. -/
def mloop (pat name : List UInt8) : Nat → Nat → Nat → Nat → Nat → Option Nat
  | 0, p, _, _, _ => some p
  | f + 1, p, n, sp, sn =>
    if n < name.length then
      if p < pat.length ∧ byt pat p = 42 then mloop pat name f (p + 1) n (p + 1) n
      else if p < pat.length ∧ byt pat p = 63 then mloop pat name f (p + 1) (n + 1) sp sn
      else if p < pat.length ∧ oneOk (pat.drop p) (byt name n) = true then mloop pat name f (p + oneW (pat.drop p) (byt name n)) (n + 1) sp sn
      else if sp = 0 then none
      else mloop pat name f sp (sn + 1) sp (sn + 1)
    else some p

/-- The rounds that are left, at most. -/
def mu (pat name : List UInt8) (p sn : Nat) : Nat := (name.length - sn) * (pat.length + 1) + (pat.length - p)

theorem mu_fwd (pat name : List UInt8) (p p' sn sn' : Nat) (h1 : p < p') (h2 : p' ≤ pat.length) (h3 : sn ≤ sn') : mu pat name p' sn' < mu pat name p sn := by
  unfold mu
  have := Nat.mul_le_mul_right (pat.length + 1) (show name.length - sn' ≤ name.length - sn by omega)
  omega
theorem mu_back (pat name : List UInt8) (p sp sn : Nat) (h : sn < name.length) : mu pat name sp (sn + 1) < mu pat name p sn := by
  unfold mu
  have e : name.length - sn = (name.length - (sn + 1)) + 1 := by omega
  rw [e, Nat.succ_mul]
  omega

theorem width_le (pat : List UInt8) (p c : Nat) (h : p < pat.length) : p + oneW (pat.drop p) c ≤ pat.length := by
  have := oneW_le (pat.drop p) c (by rw [List.length_drop]; omega)
  rw [List.length_drop] at this; omega

theorem mloop_fuel (pat name : List UInt8) : ∀ f g p n sp sn, p ≤ pat.length → sn ≤ n → sp ≤ pat.length → mu pat name p sn < f → mu pat name p sn < g →
    mloop pat name f p n sp sn = mloop pat name g p n sp sn := by
  intro f
  induction f with
  | zero => intro g p n sp sn _ _ _ h; omega
  | succ f ih =>
    intro g p n sp sn hp hs hsp hf hg
    cases g with
    | zero => omega
    | succ g =>
      rw [mloop, mloop]
      by_cases hn : n < name.length
      · rw [if_pos hn, if_pos hn]
        by_cases h1 : p < pat.length ∧ byt pat p = 42
        · rw [if_pos h1, if_pos h1]
          have := mu_fwd pat name p (p + 1) sn n (by omega) (by omega) hs
          exact ih g _ _ _ _ (by omega) (Nat.le_refl _) (by omega) (by omega) (by omega)
        · rw [if_neg h1, if_neg h1]
          by_cases h2 : p < pat.length ∧ byt pat p = 63
          · rw [if_pos h2, if_pos h2]
            have := mu_fwd pat name p (p + 1) sn sn (by omega) (by omega) (Nat.le_refl _)
            exact ih g _ _ _ _ (by omega) (by omega) hsp (by omega) (by omega)
          · rw [if_neg h2, if_neg h2]
            by_cases h3 : p < pat.length ∧ oneOk (pat.drop p) (byt name n) = true
            · rw [if_pos h3, if_pos h3]
              have hw := width_le pat p (byt name n) h3.1
              have hq := oneW_pos (pat.drop p) (byt name n)
              have := mu_fwd pat name p (p + oneW (pat.drop p) (byt name n)) sn sn (by omega) hw (Nat.le_refl _)
              exact ih g _ _ _ _ hw (by omega) hsp (by omega) (by omega)
            · rw [if_neg h3, if_neg h3]
              by_cases h4 : sp = 0
              · rw [if_pos h4, if_pos h4]
              · rw [if_neg h4, if_neg h4]
                have := mu_back pat name p sp sn (by omega)
                exact ih g _ _ _ _ hsp (Nat.le_refl _) hsp (by omega) (by omega)
      · rw [if_neg hn, if_neg hn]

/-- The loop's answer from a state. -/
def mres (pat name : List UInt8) (p n sp sn : Nat) : Option Nat := mloop pat name (mu pat name p sn + 1) p n sp sn

variable {pat name : List UInt8} {p n sp sn : Nat}
theorem mres_star (hs : sn ≤ n) (hn : n < name.length) (hp : p < pat.length) (h : byt pat p = 42) :
    mres pat name p n sp sn = mres pat name (p + 1) n (p + 1) n := by
  have := mu_fwd pat name p (p + 1) sn n (by omega) (by omega) hs
  unfold mres
  rw [mloop, if_pos hn, if_pos ⟨hp, h⟩]
  exact mloop_fuel pat name _ _ _ _ _ _ (by omega) (Nat.le_refl _) (by omega) (by omega) (by omega)
theorem mres_q (hs : sn ≤ n) (hsp : sp ≤ pat.length) (hn : n < name.length) (hp : p < pat.length) (h : byt pat p = 63) :
    mres pat name p n sp sn = mres pat name (p + 1) (n + 1) sp sn := by
  have := mu_fwd pat name p (p + 1) sn sn (by omega) (by omega) (Nat.le_refl _)
  unfold mres
  rw [mloop, if_pos hn, if_neg (by omega), if_pos ⟨hp, h⟩]
  exact mloop_fuel pat name _ _ _ _ _ _ (by omega) (by omega) hsp (by omega) (by omega)
theorem mres_one (hs : sn ≤ n) (hsp : sp ≤ pat.length) (hn : n < name.length) (hp : p < pat.length) (h1 : byt pat p ≠ 42) (h2 : byt pat p ≠ 63) (h : oneOk (pat.drop p) (byt name n) = true) :
    mres pat name p n sp sn = mres pat name (p + oneW (pat.drop p) (byt name n)) (n + 1) sp sn := by
  have hw := width_le pat p (byt name n) hp
  have hq := oneW_pos (pat.drop p) (byt name n)
  have := mu_fwd pat name p (p + oneW (pat.drop p) (byt name n)) sn sn (by omega) hw (Nat.le_refl _)
  unfold mres
  rw [mloop, if_pos hn, if_neg (fun x => h1 x.2), if_neg (fun x => h2 x.2), if_pos ⟨hp, h⟩]
  exact mloop_fuel pat name _ _ _ _ _ _ hw (by omega) hsp (by omega) (by omega)
theorem mres_fail (hn : n < name.length) (h1 : ¬ (p < pat.length ∧ byt pat p = 42)) (h2 : ¬ (p < pat.length ∧ byt pat p = 63)) (h3 : ¬ (p < pat.length ∧ oneOk (pat.drop p) (byt name n) = true)) :
    mres pat name p n 0 sn = none := by
  unfold mres
  rw [mloop, if_pos hn, if_neg h1, if_neg h2, if_neg h3, if_pos rfl]
theorem mres_back (hs : sn ≤ n) (hsp : sp ≤ pat.length) (hn : n < name.length) (h1 : ¬ (p < pat.length ∧ byt pat p = 42)) (h2 : ¬ (p < pat.length ∧ byt pat p = 63)) (h3 : ¬ (p < pat.length ∧ oneOk (pat.drop p) (byt name n) = true)) (h0 : sp ≠ 0) :
    mres pat name p n sp sn = mres pat name sp (sn + 1) sp (sn + 1) := by
  have := mu_back pat name p sp sn (by omega)
  unfold mres
  rw [mloop, if_pos hn, if_neg h1, if_neg h2, if_neg h3, if_neg h0]
  exact mloop_fuel pat name _ _ _ _ _ _ hsp (Nat.le_refl _) hsp (by omega) (by omega)
theorem mres_end (hn : ¬ n < name.length) : mres pat name p n sp sn = some p := by
  unfold mres
  rw [mloop, if_neg hn]

/-- The stars behind p skipped. -/
def skip (pat : List UInt8) : Nat → Nat → Nat
  | 0, p => p
  | f + 1, p => if p < pat.length ∧ byt pat p = 42 then skip pat f (p + 1) else p
def sk (pat : List UInt8) (p : Nat) : Nat := skip pat (pat.length - p) p
theorem sk_star (hp : p < pat.length) (h : byt pat p = 42) : sk pat p = sk pat (p + 1) := by
  unfold sk
  rw [show pat.length - p = (pat.length - (p + 1)) + 1 from by omega, skip, if_pos ⟨hp, h⟩]
theorem sk_stop (h : ¬ (p < pat.length ∧ byt pat p = 42)) : sk pat p = p := by
  unfold sk
  cases pat.length - p with
  | zero => rfl
  | succ f => rw [skip, if_neg h]

/-- What Match answers. -/
def matchP (pat name : List UInt8) : Bool :=
  match mres pat name 0 0 0 0 with
  | none => false
  | some p => decide (sk pat p = pat.length)
theorem matchP_none (h : mres pat name 0 0 0 0 = none) : matchP pat name = false := by unfold matchP; rw [h]
theorem matchP_some {q : Nat} (h : mres pat name 0 0 0 0 = some q) : matchP pat name = decide (sk pat q = pat.length) := by unfold matchP; rw [h]

end G
end Go.Proofs.Qxb6603704a
