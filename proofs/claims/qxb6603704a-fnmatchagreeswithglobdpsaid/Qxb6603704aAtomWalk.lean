/-
  THE WALK of zzb1Atom (function 18).
-/
import Derived.Test.Qxb6603704aSetWalk
import Derived.Test.Qxb6603704aModelPlain
namespace Go.Proofs.Qxb6603704a
open Go.RowKit

theorem ret_atom {a b n m : Int} {x y : Bool} (h : a = b) (h2 : x = y) (h3 : n = m) : Ending.returned (.tuple #[.int .u8 a, .bool x, .int .i64 n]) = .returned (.tuple #[.int .u8 b, .bool y, .int .i64 m]) := by rw [h, h2, h3]

set_option maxHeartbeats 400000 in
theorem atom_any (s : ByteArray) (k : Nat) (w : World) (hs : s.size ≤ 200000) (hk : k < s.size) :
    Calls Try.prog 18 #[.string s, .int .i64 k] w fun e w' => e = .returned (.tuple #[.int .u8 (G.byt s.data.toList (G.esc s.data.toList k)), .bool (G.escB s.data.toList k), .int .i64 (G.esc s.data.toList k + 1)]) ∧ w' = w := by
  by_cases h92 : (s[k].toNat : Int) = 92
  · by_cases h1 : k + 1 < s.size
    · have H : Aside (G.escB s.data.toList k = true ∧ G.esc s.data.toList k = k + 1 ∧ G.byt s.data.toList (k + 1) = s[k + 1].toNat) :=
        ⟨escB_t s k h1 h92, G.esc_t _ _ (escB_t s k h1 h92), byt_at s (k + 1) h1⟩
      have h92' : ((s[k].toNat : Int) == 92) = true := beq_iff_eq.mpr h92
      have hd : decide ((k : Int) + 1 < (s.size : Int)) = true := decide_eq_true (by omega)
      clear h92
      go_enter Try.func18, Try.ntmps18
      go_wp2
      go_ret3
      obtain ⟨e1, e2, e3⟩ := H.out
      exact ⟨ret_atom (by rw [e2, e3]) e1.symm (by rw [e2]; omega), rfl⟩
    · have H : Aside (G.escB s.data.toList k = false ∧ G.esc s.data.toList k = k ∧ G.byt s.data.toList k = s[k].toNat) :=
        ⟨escB_e s k h1, G.esc_f _ _ (escB_e s k h1), byt_at s k hk⟩
      have h92' : ((s[k].toNat : Int) == 92) = true := beq_iff_eq.mpr h92
      have hd : decide ((k : Int) + 1 < (s.size : Int)) = false := decide_eq_false (by omega)
      clear h92
      go_enter Try.func18, Try.ntmps18
      go_wp2
      go_ret3
      obtain ⟨e1, e2, e3⟩ := H.out
      exact ⟨ret_atom (by rw [e2, e3]) e1.symm (by rw [e2]), rfl⟩
  · have H : Aside (G.escB s.data.toList k = false ∧ G.esc s.data.toList k = k ∧ G.byt s.data.toList k = s[k].toNat) :=
      ⟨escB_f s k hk h92, G.esc_f _ _ (escB_f s k hk h92), byt_at s k hk⟩
    have h92' : ((s[k].toNat : Int) == 92) = false := beq_eq_false_iff_ne.mpr h92
    clear h92
    go_enter Try.func18, Try.ntmps18
    go_wp2
    go_ret3
    obtain ⟨e1, e2, e3⟩ := H.out
    exact ⟨ret_atom (by rw [e2, e3]) e1.symm (by rw [e2]), rfl⟩
end Go.Proofs.Qxb6603704a
