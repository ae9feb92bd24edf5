/-
  THE PLAIN FUNCTIONS of the glob language: what matchSet and matchOne compute, on lists of bytes, by position. No Go in sight.
-/
namespace Go.Proofs.Qxb6603704a
namespace G

/-- The byte at place k, as a number (0 behind the end). -/
def byt (l : List UInt8) (k : Nat) : Nat := (l.getD k 0).toNat

def escB (l : List UInt8) (k : Nat) : Bool := decide (byt l k = 92 ∧ k + 1 < l.length)
/-- Where the byte that an atom at k stands for lies. -/
def esc (l : List UInt8) (k : Nat) : Nat := if byt l k = 92 ∧ k + 1 < l.length then k + 1 else k
theorem esc_t (l : List UInt8) (k : Nat) (h : escB l k = true) : esc l k = k + 1 := if_pos (of_decide_eq_true h)
theorem esc_f (l : List UInt8) (k : Nat) (h : escB l k = false) : esc l k = k := if_neg (of_decide_eq_false h)
theorem byt_le (l : List UInt8) (k : Nat) : byt l k ≤ 255 := by
  unfold byt; have := (l.getD k 0).toNat_lt; omega

/-- Does a range begin at the atom whose byte lies at k? -/
def rng (l : List UInt8) (k : Nat) : Bool := decide (k + 2 < l.length ∧ byt l (k + 1) = 45 ∧ byt l (k + 2) ≠ 93)

/-- Where the item's upper byte lies. -/
def hiIx (l : List UInt8) (k : Nat) : Nat := if rng l k = true then esc l (k + 2) else k

/-- c lies between a and b, in either order. -/
def btw (a b c : Nat) : Bool := decide ((a ≤ c ∧ c ≤ b) ∨ (b ≤ c ∧ c ≤ a))

def hit (l : List UInt8) (c k : Nat) : Bool := btw (byt l (esc l k)) (byt l (hiIx l (esc l k))) c

def nxt (l : List UInt8) (k : Nat) : Nat := hiIx l (esc l k) + 1

/-- The scan of a set's items: at most n rounds. -/
def scan (l : List UInt8) (c : Nat) : Nat → Nat → Bool → Nat × Bool
  | 0, k, f => (k, f)
  | n + 1, k, f => if k < l.length ∧ byt l k ≠ 93 then scan l c n (nxt l k) (f || hit l c k) else (k, f)

theorem esc_le (l : List UInt8) (k : Nat) : k ≤ esc l k ∧ esc l k ≤ k + 1 := by unfold esc; split <;> omega
theorem esc_lt (l : List UInt8) (k : Nat) (h : k < l.length) : esc l k < l.length := by unfold esc; split <;> omega
theorem hiIx_ge (l : List UInt8) (k : Nat) : k ≤ hiIx l k := by
  unfold hiIx; split
  · have := (esc_le l (k + 2)).1; omega
  · omega
theorem hiIx_lt (l : List UInt8) (k : Nat) (h : k < l.length) : hiIx l k < l.length := by
  unfold hiIx; split
  · rename_i hr; simp [rng] at hr; exact esc_lt _ _ (by omega)
  · exact h
theorem nxt_gt (l : List UInt8) (k : Nat) : k < nxt l k := by
  unfold nxt; have := (esc_le l k).1; have := hiIx_ge l (esc l k); omega
theorem nxt_le (l : List UInt8) (k : Nat) (h : k < l.length) : nxt l k ≤ l.length := by
  unfold nxt; have := hiIx_lt l _ (esc_lt l k h); omega

theorem scan_step (l : List UInt8) (c n k : Nat) (f : Bool) (h : k < l.length) (hb : byt l k ≠ 93) : scan l c (n + 1) k f = scan l c n (nxt l k) (f || hit l c k) := by
  rw [scan, if_pos ⟨h, hb⟩]
theorem scan_stop (l : List UInt8) (c n k : Nat) (f : Bool) (h : ¬ (k < l.length ∧ byt l k ≠ 93)) : scan l c n k f = (k, f) := by
  cases n with
  | zero => rfl
  | succ n => rw [scan, if_neg h]

/-- The fuel does not matter once it suffices. -/
theorem scan_fuel (l : List UInt8) (c : Nat) : ∀ n m k f, l.length - k ≤ n → l.length - k ≤ m → scan l c n k f = scan l c m k f := by
  intro n
  induction n with
  | zero =>
    intro m k f h1 _
    rw [scan_stop l c 0 k f (by omega), scan_stop l c m k f (by omega)]
  | succ n ih =>
    intro m k f h1 h2
    by_cases h : k < l.length ∧ byt l k ≠ 93
    · cases m with
      | zero => omega
      | succ m =>
        have hg := nxt_gt l k
        rw [scan_step l c n k f h.1 h.2, scan_step l c m k f h.1 h.2]
        exact ih m _ _ (by omega) (by omega)
    · rw [scan_stop l c _ k f h, scan_stop l c _ k f h]

/-- The scan from k. -/
def run (l : List UInt8) (c k : Nat) (f : Bool) : Nat × Bool := scan l c l.length k f
theorem run_step (l : List UInt8) (c k : Nat) (f : Bool) (h : k < l.length) (hb : byt l k ≠ 93) : run l c k f = run l c (nxt l k) (f || hit l c k) := by
  unfold run
  rw [scan_fuel l c l.length (l.length + 1) k f (by omega) (by omega), scan_step l c _ k f h hb]
theorem run_stop (l : List UInt8) (c k : Nat) (f : Bool) (h : ¬ (k < l.length ∧ byt l k ≠ 93)) : run l c k f = (k, f) := scan_stop l c _ k f h

/-- Does the set open with a caret? -/
def neg (l : List UInt8) : Bool := decide (1 < l.length ∧ byt l 1 = 94)
def beg (l : List UInt8) : Nat := if neg l = true then 2 else 1
def setEnd (l : List UInt8) (c : Nat) : Nat := (run l c (beg l) false).1
def setW (l : List UInt8) (c : Nat) : Nat := if setEnd l c < l.length then setEnd l c + 1 else setEnd l c
def setOk (l : List UInt8) (c : Nat) : Bool := (run l c (beg l) false).2 != neg l

theorem round_ok {l : List UInt8} {c k k1 k2 b1 b2 b3 : Nat} {fb : Bool} {R : Nat × Bool} (hk : k < l.length) (hb : byt l k ≠ 93) (hrun : run l c k fb = R)
    (E1 : k1 = esc l k ∧ b1 = byt l k1) (E2 : k2 = hiIx l k1 ∧ ((b2 ≤ c ∧ c ≤ b3) ↔ btw b1 (byt l k2) c = true)) :
    ((b2 ≤ c ∧ c ≤ b3) → run l c (k2 + 1) true = R) ∧ (¬ (b2 ≤ c ∧ c ≤ b3) → run l c (k2 + 1) fb = R) := by
  obtain ⟨rfl, rfl⟩ := E1
  obtain ⟨rfl, hiff⟩ := E2
  rw [run_step l c k fb hk hb] at hrun
  constructor
  · intro h
    have : hit l c k = true := hiff.1 h
    rw [this, Bool.or_true] at hrun
    exact hrun
  · intro h
    have : hit l c k = false := by
      cases e : hit l c k with
      | false => rfl
      | true => exact absurd (hiff.2 e) h
    rw [this, Bool.or_false] at hrun
    exact hrun
theorem exit_ok {l : List UInt8} {c k : Nat} {fb : Bool} (hrun : run l c k fb = run l c (beg l) false) (h : ¬ (k < l.length ∧ byt l k ≠ 93)) :
    setEnd l c = k ∧ setOk l c = !(fb == neg l) := by
  rw [run_stop l c k fb h] at hrun
  unfold setEnd setOk
  rw [← hrun]
  exact ⟨rfl, rfl⟩
theorem btw_lt {x b c : Nat} (h : x < b) : (x ≤ c ∧ c ≤ b) ↔ btw b x c = true := by unfold btw; simp; omega
theorem btw_ge {x b c : Nat} (h : ¬ x < b) : (b ≤ c ∧ c ≤ x) ↔ btw b x c = true := by unfold btw; simp; omega
theorem hiIx_t (l : List UInt8) (k : Nat) (h : rng l k = true) : hiIx l k = esc l (k + 2) := if_pos h
theorem hiIx_f (l : List UInt8) (k : Nat) (h : rng l k = false) : hiIx l k = k := if_neg (by rw [h]; exact Bool.false_ne_true)

/-! ### one byte more in front -/
theorem byt_cons (x : UInt8) (l : List UInt8) (k : Nat) : byt (x :: l) (k + 1) = byt l k := by simp [byt]
theorem esc_cons (x : UInt8) (l : List UInt8) (k : Nat) : esc (x :: l) (k + 1) = esc l k + 1 := by
  unfold esc; rw [byt_cons]; simp only [List.length_cons]
  by_cases h : byt l k = 92 ∧ k + 1 < l.length
  · rw [if_pos h, if_pos (by omega)]
  · rw [if_neg h, if_neg (by omega)]
theorem rng_cons (x : UInt8) (l : List UInt8) (k : Nat) : rng (x :: l) (k + 1) = rng l k := by
  unfold rng
  rw [show k + 1 + 1 = (k + 1) + 1 from rfl, byt_cons, show k + 1 + 2 = (k + 2) + 1 from by omega, byt_cons]
  simp only [List.length_cons]
  congr 1
  simp
theorem hiIx_cons (x : UInt8) (l : List UInt8) (k : Nat) : hiIx (x :: l) (k + 1) = hiIx l k + 1 := by
  unfold hiIx; rw [rng_cons, show k + 1 + 2 = (k + 2) + 1 from by omega, esc_cons]; split <;> rfl
theorem hit_cons (x : UInt8) (l : List UInt8) (c k : Nat) : hit (x :: l) c (k + 1) = hit l c k := by
  unfold hit; rw [esc_cons, hiIx_cons, byt_cons, byt_cons]
theorem nxt_cons (x : UInt8) (l : List UInt8) (k : Nat) : nxt (x :: l) (k + 1) = nxt l k + 1 := by
  unfold nxt; rw [esc_cons, hiIx_cons]
theorem scan_cons (x : UInt8) (l : List UInt8) (c : Nat) : ∀ n k f, scan (x :: l) c n (k + 1) f = ((scan l c n k f).1 + 1, (scan l c n k f).2) := by
  intro n
  induction n with
  | zero => intro k f; rfl
  | succ n ih =>
    intro k f
    by_cases h : k < l.length ∧ byt l k ≠ 93
    · rw [scan_step l c n k f h.1 h.2, scan_step (x :: l) c n (k + 1) f (by simp; omega) (by rw [byt_cons]; exact h.2), nxt_cons, hit_cons, ih]
    · rw [scan_stop l c _ k f h, scan_stop (x :: l) c _ (k + 1) f (by rw [byt_cons]; simp; simpa using h)]
theorem run_cons (x : UInt8) (l : List UInt8) (c k : Nat) (f : Bool) : run (x :: l) c (k + 1) f = ((run l c k f).1 + 1, (run l c k f).2) := by
  unfold run
  rw [scan_cons, scan_fuel l c (x :: l).length l.length k f (by simp; omega) (by omega)]

/-! ### the caret's law -/
theorem caret_neg1 (b : List UInt8) (h : ¬ (0 < b.length ∧ byt b 0 = 94)) : neg (91 :: b) = false := by
  unfold neg
  rw [show (1 : Nat) = 0 + 1 from rfl, byt_cons]
  simp only [List.length_cons]
  exact decide_eq_false (by omega)
theorem caret_neg2 (b : List UInt8) : neg (91 :: 94 :: b) = true := by
  unfold neg; simp [byt]
theorem caret_run (b : List UInt8) (c : Nat) (f : Bool) : run (91 :: 94 :: b) c 2 f = ((run (91 :: b) c 1 f).1 + 1, (run (91 :: b) c 1 f).2) := by
  rw [show (2 : Nat) = (0 + 1) + 1 from rfl, run_cons, run_cons, show (1 : Nat) = 0 + 1 from rfl, run_cons]
theorem caret_end (b : List UInt8) (c : Nat) (h : ¬ (0 < b.length ∧ byt b 0 = 94)) : setEnd (91 :: 94 :: b) c = setEnd (91 :: b) c + 1 := by
  unfold setEnd beg
  rw [caret_neg1 b h, caret_neg2 b]
  simp only [if_true]
  rw [if_neg (by simp), caret_run]
theorem caret_w (b : List UInt8) (c : Nat) (h : ¬ (0 < b.length ∧ byt b 0 = 94)) : setW (91 :: 94 :: b) c = setW (91 :: b) c + 1 := by
  unfold setW
  rw [caret_end b c h]
  simp only [List.length_cons]
  by_cases hh : setEnd (91 :: b) c < b.length + 1
  · rw [if_pos (by omega), if_pos hh]
  · rw [if_neg (by omega), if_neg hh]
theorem caret_ok (b : List UInt8) (c : Nat) (h : ¬ (0 < b.length ∧ byt b 0 = 94)) : setOk (91 :: 94 :: b) c = !(setOk (91 :: b) c) := by
  unfold setOk beg
  rw [caret_neg1 b h, caret_neg2 b]
  simp only [if_true]
  rw [if_neg (by simp), caret_run]
  simp

/-! ### bounds -/
theorem scan_ge (l : List UInt8) (c : Nat) : ∀ n k f, k ≤ (scan l c n k f).1 := by
  intro n
  induction n with
  | zero => intro k f; exact Nat.le_refl _
  | succ n ih =>
    intro k f
    by_cases h : k < l.length ∧ byt l k ≠ 93
    · rw [scan_step l c n k f h.1 h.2]
      have := ih (nxt l k) (f || hit l c k); have := nxt_gt l k; omega
    · rw [scan_stop l c _ k f h]; exact Nat.le_refl _
theorem scan_le (l : List UInt8) (c : Nat) : ∀ n k f, k ≤ l.length → (scan l c n k f).1 ≤ l.length := by
  intro n
  induction n with
  | zero => intro k f h; exact h
  | succ n ih =>
    intro k f hk
    by_cases h : k < l.length ∧ byt l k ≠ 93
    · rw [scan_step l c n k f h.1 h.2]; exact ih _ _ (nxt_le l k h.1)
    · rw [scan_stop l c _ k f h]; exact hk
theorem beg_le (l : List UInt8) (h : 0 < l.length) : beg l ≤ l.length := by
  unfold beg neg; split
  · rename_i hn; have := of_decide_eq_true hn; omega
  · omega
theorem setEnd_le (l : List UInt8) (c : Nat) (h : 0 < l.length) : setEnd l c ≤ l.length := scan_le l c _ _ _ (beg_le l h)
theorem setW_le (l : List UInt8) (c : Nat) (h : 0 < l.length) : setW l c ≤ l.length := by
  unfold setW; have := setEnd_le l c h; split <;> omega
theorem setW_pos (l : List UInt8) (c : Nat) : 1 ≤ setW l c := by
  have h1 : 1 ≤ beg l := by unfold beg; split <;> omega
  have h2 : beg l ≤ setEnd l c := scan_ge l c _ _ _
  unfold setW; split <;> omega

/-! ### one element: matchOne -/
def oneW (l : List UInt8) (c : Nat) : Nat :=
  if byt l 0 = 92 then (if 1 < l.length then 2 else 1) else if byt l 0 = 91 then setW l c else 1
def oneOk (l : List UInt8) (c : Nat) : Bool :=
  if byt l 0 = 92 then (if 1 < l.length then decide (byt l 1 = c) else decide (c = 92)) else if byt l 0 = 91 then setOk l c else decide (byt l 0 = c)
theorem oneW_pos (l : List UInt8) (c : Nat) : 1 ≤ oneW l c := by
  unfold oneW
  split
  · split <;> omega
  · split
    · exact setW_pos l c
    · omega
theorem oneW_le (l : List UInt8) (c : Nat) (h : 0 < l.length) : oneW l c ≤ l.length := by
  unfold oneW
  split
  · split <;> omega
  · split
    · exact setW_le l c h
    · omega

end G
end Go.Proofs.Qxb6603704a
