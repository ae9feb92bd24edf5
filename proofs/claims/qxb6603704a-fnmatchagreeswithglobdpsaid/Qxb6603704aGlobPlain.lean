/-
  THE PLAIN GLOB LANGUAGE: a pattern's elements; what it means that they match a name; that Match's loop with one star to come back to decides just that. No Go in sight.
-/
import Derived.Test.Qxb6603704aMatchPlain
import Derived.Test.Qxb6603704aModelPlain
namespace Go.Proofs.Qxb6603704a
namespace G

/-- An element: its kind (0 a star, 1 any byte, 2 one byte of a table), its table. -/
abbrev Tok := Nat × (Nat → Bool)
def tokAt (l : List UInt8) (p : Nat) : Tok :=
  if byt l p = 42 then (0, fun _ => false) else if byt l p = 63 then (1, fun _ => false) else (2, oneOk (l.drop p))
def wAt (l : List UInt8) (p : Nat) : Nat := if byt l p = 42 then 1 else if byt l p = 63 then 1 else oneW (l.drop p) 0
def toksF (l : List UInt8) : Nat → Nat → List Tok
  | 0, _ => []
  | n + 1, p => if p < l.length then tokAt l p :: toksF l n (p + wAt l p) else []
def toks (l : List UInt8) (p : Nat) : List Tok := toksF l (l.length - p) p

theorem wAt_pos (l : List UInt8) (p : Nat) : 1 ≤ wAt l p := by
  unfold wAt; split
  · omega
  · split
    · omega
    · exact oneW_pos _ _
theorem wAt_le (l : List UInt8) (p : Nat) (h : p < l.length) : p + wAt l p ≤ l.length := by
  unfold wAt; split
  · omega
  · split
    · omega
    · exact width_le l p 0 h
theorem oneW_c (l : List UInt8) (c : Nat) : oneW l c = oneW l 0 := by
  unfold oneW
  by_cases h0 : 0 < l.length
  · rw [setW_model l c h0, setW_model l 0 h0]
  · have hl : l = [] := List.length_eq_zero_iff.mp (by omega)
    subst hl
    simp [byt]
theorem toksF_fuel (l : List UInt8) : ∀ n m p, l.length - p ≤ n → l.length - p ≤ m → toksF l n p = toksF l m p := by
  intro n
  induction n with
  | zero =>
    intro m p h1 _
    cases m with
    | zero => rfl
    | succ m => rw [toksF, toksF, if_neg (by omega)]
  | succ n ih =>
    intro m p h1 h2
    by_cases h : p < l.length
    · cases m with
      | zero => omega
      | succ m =>
        have := wAt_pos l p
        rw [toksF, toksF, if_pos h, if_pos h, ih m _ (by omega) (by omega)]
    · cases m with
      | zero => rw [toksF, toksF, if_neg h]
      | succ m => rw [toksF, toksF, if_neg h, if_neg h]
theorem toks_step (l : List UInt8) (p : Nat) (h : p < l.length) : toks l p = tokAt l p :: toks l (p + wAt l p) := by
  unfold toks
  obtain ⟨m, hm⟩ : ∃ m, l.length - p = m + 1 := ⟨l.length - p - 1, by omega⟩
  have := wAt_pos l p
  rw [hm, toksF, if_pos h, toksF_fuel l m (l.length - (p + wAt l p)) _ (by omega) (by omega)]
theorem toks_end (l : List UInt8) (p : Nat) (h : ¬ p < l.length) : toks l p = [] := by
  unfold toks
  rw [show l.length - p = 0 from by omega, toksF]
theorem toks_len (l : List UInt8) : ∀ n p, l.length - p = n → (toks l p).length ≤ l.length - p := by
  intro n
  induction n using Nat.strongRecOn with
  | _ n ih =>
    intro p hn
    by_cases h : p < l.length
    · have := wAt_pos l p
      rw [toks_step l p h, List.length_cons]
      have := ih (l.length - (p + wAt l p)) (by omega) (p + wAt l p) rfl
      omega
    · rw [toks_end l p h]; simp

/-! ### what a match is -/
def acc (t : Tok) (c : Nat) : Bool := decide (t.1 = 1) || (decide (t.1 = 2) && t.2 c)
def okT (t : Tok) (u : List UInt8) : Prop := t.1 = 0 ∨ ∃ c : UInt8, u = [c] ∧ acc t c.toNat = true
def Ms : List Tok → List UInt8 → Prop
  | [], s => s = []
  | t :: ts, s => ∃ u v, s = u ++ v ∧ okT t u ∧ Ms ts v

theorem Ms_append : ∀ (a b : List Tok) (s : List UInt8), Ms (a ++ b) s ↔ ∃ u v, s = u ++ v ∧ Ms a u ∧ Ms b v
  | [], b, s => by
    constructor
    · intro h; exact ⟨[], s, rfl, rfl, h⟩
    · rintro ⟨u, v, rfl, hu, hv⟩
      have hu' : u = [] := hu
      subst hu'; exact hv
  | t :: a, b, s => by
    constructor
    · rintro ⟨u, v, rfl, hu, hv⟩
      obtain ⟨x, y, rfl, hx, hy⟩ := (Ms_append a b v).1 hv
      exact ⟨u ++ x, y, by rw [List.append_assoc], ⟨u, x, rfl, hu, hx⟩, hy⟩
    · rintro ⟨u, v, rfl, ⟨x, y, rfl, hx, hy⟩, hv⟩
      exact ⟨x, y ++ v, by rw [List.append_assoc], hx, (Ms_append a b (y ++ v)).2 ⟨y, v, rfl, hy, hv⟩⟩
theorem Ms_one (t : Tok) (s : List UInt8) : Ms [t] s ↔ okT t s := by
  constructor
  · rintro ⟨u, v, rfl, hu, hv⟩
    have hv' : v = [] := hv
    subst hv'; rw [List.append_nil]; exact hu
  · intro h; exact ⟨s, [], by rw [List.append_nil], h, rfl⟩

/-- Elements of one byte each, as many as bytes. -/
def plainL (E : List Tok) : Prop := ∀ t ∈ E, t.1 ≠ 0
theorem plainL_nil : plainL [] := fun _ ht => by cases ht
theorem Ms_plain_len : ∀ (E : List Tok) (s : List UInt8), plainL E → Ms E s → s.length = E.length
  | [], s, _, h => by have h' : s = [] := h; subst h'; rfl
  | t :: E, s, hp, ⟨u, v, hs, hu, hv⟩ => by
    rcases hu with hu | ⟨c, rfl, _⟩
    · exact absurd hu (hp t (List.mem_cons_self ..))
    · have := Ms_plain_len E v (fun x hx => hp x (List.mem_cons_of_mem _ hx)) hv
      rw [hs, List.length_append, this]; simp; omega

/-! ### one element at the head -/
theorem Ms_star (t : Tok) (ts : List Tok) (s : List UInt8) (h : t.1 = 0) : Ms (t :: ts) s ↔ ∃ k, k ≤ s.length ∧ Ms ts (s.drop k) := by
  constructor
  · rintro ⟨u, v, rfl, _, hv⟩
    exact ⟨u.length, by simp, by simpa using hv⟩
  · rintro ⟨k, _, hk⟩
    exact ⟨s.take k, s.drop k, (List.take_append_drop k s).symm, Or.inl h, hk⟩
theorem Ms_byte (t : Tok) (ts : List Tok) (c : UInt8) (s : List UInt8) (h : t.1 ≠ 0) : Ms (t :: ts) (c :: s) ↔ acc t c.toNat = true ∧ Ms ts s := by
  constructor
  · rintro ⟨u, v, hs, hu, hv⟩
    rcases hu with hu | ⟨d, rfl, hd⟩
    · exact absurd hu h
    · simp at hs
      obtain ⟨rfl, rfl⟩ := hs
      exact ⟨hd, hv⟩
  · rintro ⟨ha, hv⟩
    exact ⟨[c], s, rfl, Or.inr ⟨c, rfl, ha⟩, hv⟩

/-! ### Match's loop decides it -/
/-- What the loop's answer says. -/
def yes (pat : List UInt8) (r : Option Nat) : Prop := ∃ q, r = some q ∧ sk pat q = pat.length

theorem tok_star {l : List UInt8} {p : Nat} (h : byt l p = 42) : (tokAt l p).1 = 0 ∧ wAt l p = 1 := by
  unfold tokAt wAt; rw [if_pos h, if_pos h]; exact ⟨rfl, rfl⟩
theorem tok_q {l : List UInt8} {p : Nat} (h : byt l p = 63) (c : Nat) : (tokAt l p).1 ≠ 0 ∧ acc (tokAt l p) c = true ∧ wAt l p = 1 := by
  unfold tokAt wAt acc; rw [if_neg (by omega), if_pos h, if_neg (by omega), if_pos h]; simp
theorem tok_one {l : List UInt8} {p : Nat} (h1 : byt l p ≠ 42) (h2 : byt l p ≠ 63) (c : Nat) : (tokAt l p).1 ≠ 0 ∧ acc (tokAt l p) c = oneOk (l.drop p) c ∧ wAt l p = oneW (l.drop p) c := by
  unfold tokAt wAt acc; rw [if_neg h1, if_neg h2, if_neg h1, if_neg h2, oneW_c _ c]; simp
theorem tok_other {l : List UInt8} {p : Nat} (h1 : byt l p ≠ 42) : (tokAt l p).1 ≠ 0 := by
  unfold tokAt; rw [if_neg h1]; split <;> simp

theorem stars_end (pat : List UInt8) : ∀ n p, pat.length - p = n → p ≤ pat.length → (sk pat p = pat.length ↔ Ms (toks pat p) []) := by
  intro n
  induction n with
  | zero =>
    intro p hn hp
    rw [sk_stop (by omega), toks_end pat p (by omega)]
    exact ⟨fun _ => rfl, fun _ => by omega⟩
  | succ n ih =>
    intro p hn hp
    have hlt : p < pat.length := by omega
    by_cases h : byt pat p = 42
    · obtain ⟨k0, w1⟩ := tok_star h
      rw [sk_star hlt h, toks_step pat p hlt, w1, Ms_star _ _ _ k0, ih (p + 1) (by omega) (by omega)]
      constructor
      · intro x; exact ⟨0, Nat.zero_le _, x⟩
      · rintro ⟨k, _, x⟩; simpa using x
    · rw [sk_stop (fun x => h x.2), toks_step pat p hlt]
      constructor
      · intro x; omega
      · rintro ⟨u, v, hs, hu, hv⟩
        rcases hu with hu | ⟨c, rfl, _⟩
        · exact absurd hu (tok_other h)
        · simp at hs

theorem head_fail {pat name : List UInt8} {p n : Nat} (hn : n < name.length) (h1 : ¬ (p < pat.length ∧ byt pat p = 42)) (h2 : ¬ (p < pat.length ∧ byt pat p = 63))
    (h3 : ¬ (p < pat.length ∧ oneOk (pat.drop p) (byt name n) = true)) : ¬ Ms (toks pat p) (name.drop n) := by
  intro hM
  rw [List.drop_eq_getElem_cons hn] at hM
  by_cases hp : p < pat.length
  · have a1 : byt pat p ≠ 42 := fun x => h1 ⟨hp, x⟩
    have a2 : byt pat p ≠ 63 := fun x => h2 ⟨hp, x⟩
    obtain ⟨k0, ha, _⟩ := tok_one (l := pat) a1 a2 (name[n]).toNat
    rw [toks_step pat p hp, Ms_byte _ _ _ _ k0, ha] at hM
    apply h3
    refine ⟨hp, ?_⟩
    have : byt name n = (name[n]).toNat := by unfold byt; rw [List.getD_eq_getElem?_getD, List.getElem?_eq_getElem hn]; rfl
    rw [this]; exact hM.1
  · rw [toks_end pat p hp] at hM
    have hM' : name[n] :: name.drop (n + 1) = [] := hM
    cases hM'

theorem byt_eq {name : List UInt8} {n : Nat} (hn : n < name.length) : byt name n = (name[n]).toNat := by
  unfold byt; rw [List.getD_eq_getElem?_getD, List.getElem?_eq_getElem hn]; rfl

/-- THE LOOP, FROM ANY STATE: E: the elements between the star and here, one for each byte since. -/
theorem mres_iff (pat name : List UInt8) : ∀ m p n sp sn (E : List Tok), mu pat name p sn = m → p ≤ pat.length → n ≤ name.length → sn ≤ n → sp ≤ pat.length →
    (sp ≠ 0 → toks pat sp = E ++ toks pat p ∧ plainL E ∧ E.length = n - sn) →
    (yes pat (mres pat name p n sp sn) ↔ (Ms (toks pat p) (name.drop n) ∨ (sp ≠ 0 ∧ ∃ k, sn < k ∧ k ≤ name.length ∧ Ms (toks pat sp) (name.drop k)))) := by
  intro m
  induction m using Nat.strongRecOn with
  | _ m ih =>
    intro p n sp sn E hm hp hn hs hsp hE
    by_cases hlt : n < name.length
    · by_cases h1 : p < pat.length ∧ byt pat p = 42
      · -- a star
        have hmu := mu_fwd pat name p (p + 1) sn n (by omega) (by omega) hs
        obtain ⟨k0, w1⟩ := tok_star h1.2
        rw [mres_star hs hlt h1.1 h1.2, ih _ (by omega) (p + 1) n (p + 1) n [] rfl (by omega) hn (Nat.le_refl _) (by omega) (fun _ => ⟨rfl, plainL_nil, by simp⟩)]
        have hT : toks pat p = tokAt pat p :: toks pat (p + 1) := by rw [toks_step pat p h1.1, w1]
        have key : Ms (toks pat p) (name.drop n) ↔ (Ms (toks pat (p + 1)) (name.drop n) ∨ (p + 1 ≠ 0 ∧ ∃ k, n < k ∧ k ≤ name.length ∧ Ms (toks pat (p + 1)) (name.drop k))) := by
          rw [hT, Ms_star _ _ _ k0]
          constructor
          · rintro ⟨k, hk, hM⟩
            rw [List.length_drop] at hk
            rw [List.drop_drop] at hM
            by_cases hk0 : k = 0
            · subst hk0; exact Or.inl hM
            · exact Or.inr ⟨by omega, n + k, by omega, by omega, hM⟩
          · rintro (hM | ⟨_, k, hk1, hk2, hM⟩)
            · exact ⟨0, Nat.zero_le _, by rw [List.drop_drop]; exact hM⟩
            · exact ⟨k - n, by rw [List.length_drop]; omega, by rw [List.drop_drop, show n + (k - n) = k from by omega]; exact hM⟩
        rw [← key]
        constructor
        · exact Or.inl
        · rintro (hM | ⟨h0, k, hk1, hk2, hM⟩)
          · exact hM
          · -- the elder star's way goes through here
            obtain ⟨e1, e2, e3⟩ := hE h0
            rw [e1, Ms_append] at hM
            obtain ⟨u, v, huv, hu, hv⟩ := hM
            have hul := Ms_plain_len E u e2 hu
            rw [hT, Ms_star _ _ _ k0] at hv ⊢
            obtain ⟨j, hj, hM⟩ := hv
            have hvd : v = name.drop (k + u.length) := by
              rw [← List.drop_drop, huv]; simp
            have hlen := congrArg List.length huv
            rw [List.length_drop, List.length_append] at hlen
            refine ⟨k + u.length + j - n, by rw [List.length_drop]; omega, ?_⟩
            rw [List.drop_drop, show n + (k + u.length + j - n) = k + u.length + j from by omega, ← List.drop_drop, ← hvd]
            exact hM
      · by_cases h2 : p < pat.length ∧ byt pat p = 63
        · have hmu := mu_fwd pat name p (p + 1) sn sn (by omega) (by omega) (Nat.le_refl _)
          obtain ⟨k0, ha, w1⟩ := tok_q h2.2 (name[n]).toNat
          have hT : toks pat p = tokAt pat p :: toks pat (p + 1) := by rw [toks_step pat p h2.1, w1]
          rw [mres_q hs hsp hlt h2.1 h2.2, ih _ (by omega) (p + 1) (n + 1) sp sn (E ++ [tokAt pat p]) rfl (by omega) (by omega) (by omega) hsp ?_,
            hT, List.drop_eq_getElem_cons hlt, Ms_byte _ _ _ _ k0]
          · simp only [ha, true_and]
          · intro h0
            obtain ⟨e1, e2, e3⟩ := hE h0
            refine ⟨by rw [e1, hT, List.append_assoc]; rfl, ?_, by rw [List.length_append, e3]; simp; omega⟩
            intro t ht
            rcases List.mem_append.1 ht with h | h
            · exact e2 t h
            · simp at h; subst h; exact k0
        · by_cases h3 : p < pat.length ∧ oneOk (pat.drop p) (byt name n) = true
          · have a1 : byt pat p ≠ 42 := fun x => h1 ⟨h3.1, x⟩
            have a2 : byt pat p ≠ 63 := fun x => h2 ⟨h3.1, x⟩
            have hw := width_le pat p (byt name n) h3.1
            have hq := oneW_pos (pat.drop p) (byt name n)
            have hmu := mu_fwd pat name p (p + oneW (pat.drop p) (byt name n)) sn sn (by omega) hw (Nat.le_refl _)
            obtain ⟨k0, ha, w1⟩ := tok_one a1 a2 (byt name n)
            have hT : toks pat p = tokAt pat p :: toks pat (p + oneW (pat.drop p) (byt name n)) := by rw [toks_step pat p h3.1, w1]
            rw [mres_one hs hsp hlt h3.1 a1 a2 h3.2, ih _ (by omega) _ (n + 1) sp sn (E ++ [tokAt pat p]) rfl hw (by omega) (by omega) hsp ?_,
              hT, List.drop_eq_getElem_cons hlt, Ms_byte _ _ _ _ k0, ← byt_eq hlt, ha]
            · simp only [h3.2, true_and]
            · intro h0
              obtain ⟨e1, e2, e3⟩ := hE h0
              refine ⟨by rw [e1, hT, List.append_assoc]; rfl, ?_, by rw [List.length_append, e3]; simp; omega⟩
              intro t ht
              rcases List.mem_append.1 ht with h | h
              · exact e2 t h
              · simp at h; subst h; exact k0
          · have hf := head_fail hlt h1 h2 h3
            by_cases h4 : sp = 0
            · subst h4
              rw [mres_fail hlt h1 h2 h3]
              constructor
              · rintro ⟨q, hq, _⟩; cases hq
              · rintro (h | ⟨h, _⟩)
                · exact absurd h hf
                · exact absurd rfl h
            · have hmu := mu_back pat name p sp sn (by omega)
              rw [mres_back hs hsp hlt h1 h2 h3 h4, ih _ (by omega) sp (sn + 1) sp (sn + 1) [] rfl hsp (by omega) (Nat.le_refl _) hsp (fun _ => ⟨rfl, plainL_nil, by simp⟩)]
              constructor
              · rintro (h | ⟨_, k, hk1, hk2, hM⟩)
                · exact Or.inr ⟨h4, sn + 1, by omega, by omega, h⟩
                · exact Or.inr ⟨h4, k, by omega, hk2, hM⟩
              · rintro (h | ⟨_, k, hk1, hk2, hM⟩)
                · exact absurd h hf
                · by_cases e : k = sn + 1
                  · subst e; exact Or.inl hM
                  · exact Or.inr ⟨h4, k, by omega, hk2, hM⟩
    · rw [mres_end hlt, List.drop_of_length_le (by omega), ← stars_end pat _ p rfl hp]
      constructor
      · rintro ⟨q, hq, hy⟩
        cases hq
        exact Or.inl hy
      · rintro (h | ⟨h0, k, hk1, hk2, hM⟩)
        · exact ⟨p, rfl, h⟩
        · exfalso
          obtain ⟨e1, e2, e3⟩ := hE h0
          rw [e1, Ms_append] at hM
          obtain ⟨u, v, huv, hu, hv⟩ := hM
          have hul := Ms_plain_len E u e2 hu
          have hlen := congrArg List.length huv
          rw [List.length_drop, List.length_append] at hlen
          omega

/-- MATCH DECIDES THE GLOB LANGUAGE. -/
theorem matchP_iff (pat name : List UInt8) : matchP pat name = true ↔ Ms (toks pat 0) name := by
  have h := mres_iff pat name _ 0 0 0 0 [] rfl (Nat.zero_le _) (Nat.zero_le _) (Nat.le_refl _) (Nat.zero_le _) (fun h => absurd rfl h)
  rw [List.drop_zero] at h
  have hy : matchP pat name = true ↔ yes pat (mres pat name 0 0 0 0) := by
    unfold matchP yes
    cases mres pat name 0 0 0 0 with
    | none => simp
    | some q => simp
  rw [hy, h]
  constructor
  · rintro (h | ⟨h, _⟩)
    · exact h
    · exact absurd rfl h
  · exact Or.inl
end G
end Go.Proofs.Qxb6603704a
