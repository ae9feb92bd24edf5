/-
  THE WALK of Match (function 12).
-/
import Derived.Test.Qxb6603704aOneWalk
import Derived.Test.Qxb6603704aMatchPlain
import Derived.Lib.IndexBytes
namespace Go.Proofs.Qxb6603704a
open Go.RowKit

theorem drop_list (s : ByteArray) (p : Nat) : (s.extract p s.size).data.toList = s.data.toList.drop p := by
  rw [Lib.extract_to_end]
theorem drop_size (s : ByteArray) (p : Nat) : (s.extract p s.size).size = s.size - p := by simp

theorem ret_bool {a b : Bool} (h : a = b) : Ending.returned (.bool a) = .returned (.bool b) := by rw [h]

/-- One element of the pattern at p, tried on a byte: matchOne, called on the rest. -/
theorem one_at (s : ByteArray) (p c : Nat) (w : World) (hs : s.size ≤ 200000) (hp : p < s.size) (hc : c ≤ 255) :
    Calls Try.prog 24 #[.string (s.extract p s.size), .int .u8 c] w fun e w' => e = .returned (.tuple #[.int .i64 (G.oneW (s.data.toList.drop p) c), .bool (G.oneOk (s.data.toList.drop p) c)]) ∧ ∃ n, w' = w.drewN n := by
  have h := one_any (s.extract p s.size) c w (by rw [drop_size]; omega) (by rw [drop_size]; omega) hc
  rw [drop_list] at h
  exact h

set_option maxRecDepth 100000 in
set_option maxHeartbeats 800000 in
theorem match_any (s t : ByteArray) (w : World) (hs : s.size ≤ 200000) (ht : t.size ≤ 200000) :
    Calls Try.prog 12 #[.string s, .string t] w fun e w' => e = .returned (.bool (G.matchP s.data.toList t.data.toList)) ∧ ∃ n, w' = w.drewN n := by
  go_enter Try.func12, Try.ntmps12
  go_wp2
  go_loopg [4, 5, 6, 7, 8] (G.mu s.data.toList t.data.toList 0 0) (fun g r p n sp sn wr => ∃ (P N SP SN : Nat), P ≤ s.size ∧ N ≤ t.size ∧ SP ≤ s.size ∧ SN ≤ N ∧ r = .bool false ∧ p = .int .i64 P ∧ n = .int .i64 N ∧ sp = .int .i64 ((SP : Int) - 1) ∧ sn = .int .i64 SN ∧ Aside (G.mres s.data.toList t.data.toList P N SP SN = G.mres s.data.toList t.data.toList 0 0 0 0) ∧ Aside (G.mu s.data.toList t.data.toList P SN ≤ g) ∧ Aside (∃ m, wr = w.drewN m))
  case atStart => exact ⟨0, 0, 0, 0, by omega, by omega, by omega, by omega, rfl, rfl, rfl, rfl, rfl, rfl, Nat.le_refl _, 0, rfl⟩
  case round =>
    obtain ⟨P, N, SP, SN, hP, hN, hSP, hSN, rfl, rfl, rfl, rfl, rfl, hres, hmu, hwr⟩ := hrel
    by_cases hn : N < t.size
    · by_cases hp : P < s.size
      · have hb := byt_at s P hp
        have hc := byt_at t N hn
        have hw := G.width_le s.data.toList P t[N].toNat (by rw [len_l]; exact hp)
        have hq := G.oneW_pos (s.data.toList.drop P) t[N].toNat
        have hone : ∀ w, Calls Try.prog 24 #[.string (s.extract P s.size), .int .u8 t[N].toNat] w _ := fun w => one_at s P t[N].toNat w hs hp (u8_le _)
        obtain ⟨W, hW⟩ : ∃ W, W = G.oneW (s.data.toList.drop P) t[N].toNat := ⟨_, rfl⟩
        obtain ⟨ok, hok⟩ : ∃ ok, ok = G.oneOk (s.data.toList.drop P) t[N].toNat := ⟨_, rfl⟩
        rw [← hW, ← hok] at hone
        rw [← hW, len_l] at hw
        rw [← hW] at hq
        have HE : Aside (G.byt s.data.toList P = s[P].toNat ∧ G.byt t.data.toList N = t[N].toNat ∧ W = G.oneW (s.data.toList.drop P) t[N].toNat ∧ ok = G.oneOk (s.data.toList.drop P) t[N].toNat) := ⟨hb, hc, hW, hok⟩
        have HONE : Aside (∀ w, Calls Try.prog 24 #[.string (s.extract P s.size), .int .u8 t[N].toNat] w fun e w' => e = .returned (.tuple #[.int .i64 W, .bool ok]) ∧ ∃ n, w' = w.drewN n) := hone
        clear hone hb hc hW hok
        go_upto_region 6 with fail
        · have h42 : ((s[P].toNat : Int) == 42) = true := by assumption
          obtain ⟨e1, e2, e3, e4⟩ := HE.out
          go_roundg (G.mu s.data.toList t.data.toList (P + 1) N)
          case measure => have := hmu.out; have := G.mu_fwd s.data.toList t.data.toList P (P + 1) SN N (by omega) (by rw [len_l]; omega) hSN; omega
          case rel => exact ⟨P + 1, N, P + 1, N, by omega, hN, by omega, Nat.le_refl _, rfl, by go_num, rfl, by go_num, rfl, (G.mres_star hSN (by rw [len_l]; exact hn) (by rw [len_l]; exact hp) (by rw [e1]; simp at h42; omega)).symm.trans hres.out, Nat.le_refl _, hwr⟩
        · have h63 : ((s[P].toNat : Int) == 63) = true := by assumption
          obtain ⟨e1, e2, e3, e4⟩ := HE.out
          go_roundg (G.mu s.data.toList t.data.toList (P + 1) SN)
          case measure => have := hmu.out; have := G.mu_fwd s.data.toList t.data.toList P (P + 1) SN SN (by omega) (by rw [len_l]; omega) (Nat.le_refl _); omega
          case rel => exact ⟨P + 1, N + 1, SP, SN, by omega, by omega, hSP, by omega, rfl, by go_num, by go_num, rfl, rfl, (G.mres_q hSN (by rw [len_l]; exact hSP) (by rw [len_l]; exact hn) (by rw [len_l]; exact hp) (by rw [e1]; simp at h63; omega)).symm.trans hres.out, Nat.le_refl _, hwr⟩
        · have h42 : ((s[P].toNat : Int) == 42) = false := by assumption
          have h63 : ((s[P].toNat : Int) == 63) = false := by assumption
          go_quiet ((go_at_call 24; exact Calls.quiet_of (HONE.out _)))
          have hwr2 : Aside (∃ m, wr.drewN nq = w.drewN m) := by
            obtain ⟨m, rfl⟩ := hwr.out
            exact ⟨m + nq, by rw [World.drewN_drewN]⟩
          cases ok
          · by_cases hsp0 : SP = 0
            · subst hsp0
              go_wp2
              go_ret
              obtain ⟨e1, e2, e3, e4⟩ := HE.out
              exact ⟨ret_bool (G.matchP_none (hres.out.symm.trans (G.mres_fail (by rw [len_l]; exact hn) (by rw [e1]; simp at h42; omega) (by rw [e1]; simp at h63; omega) (by rw [e2, ← e4]; simp)))).symm, hwr2.out⟩
            · go_wp2
              obtain ⟨e1, e2, e3, e4⟩ := HE.out
              go_roundg (G.mu s.data.toList t.data.toList SP (SN + 1))
              case measure => have := hmu.out; have := G.mu_back s.data.toList t.data.toList P SP SN (by rw [len_l]; omega); omega
              case rel => exact ⟨SP, SN + 1, SP, SN + 1, hSP, by omega, hSP, Nat.le_refl _, rfl, rfl, by go_num, rfl, by go_num, (G.mres_back hSN (by rw [len_l]; exact hSP) (by rw [len_l]; exact hn) (by rw [e1]; simp at h42; omega) (by rw [e1]; simp at h63; omega) (by rw [e2, ← e4]; simp) hsp0).symm.trans hres.out, Nat.le_refl _, hwr2⟩
          · go_wp2
            obtain ⟨e1, e2, e3, e4⟩ := HE.out
            go_roundg (G.mu s.data.toList t.data.toList (P + W) SN)
            case measure => have := hmu.out; have := G.mu_fwd s.data.toList t.data.toList P (P + W) SN SN (by omega) (by rw [len_l]; omega) (Nat.le_refl _); omega
            case rel => exact ⟨P + W, N + 1, SP, SN, hw, by omega, hSP, by omega, rfl, by go_num, by go_num, rfl, rfl, by rw [e3, ← e2]; exact (G.mres_one hSN (by rw [len_l]; exact hSP) (by rw [len_l]; exact hn) (by rw [len_l]; exact hp) (by rw [e1]; simp at h42; omega) (by rw [e1]; simp at h63; omega) (by rw [e2, ← e4])).symm.trans hres.out, Nat.le_refl _, hwr2⟩
      · by_cases hsp0 : SP = 0
        · subst hsp0
          go_wp2
          go_ret
          exact ⟨ret_bool (G.matchP_none (hres.out.symm.trans (G.mres_fail (by rw [len_l]; exact hn) (by rw [len_l]; omega) (by rw [len_l]; omega) (by rw [len_l]; omega)))).symm, hwr.out⟩
        · go_wp2
          go_roundg (G.mu s.data.toList t.data.toList SP (SN + 1))
          case measure => have := hmu.out; have := G.mu_back s.data.toList t.data.toList P SP SN (by rw [len_l]; omega); omega
          case rel => exact ⟨SP, SN + 1, SP, SN + 1, hSP, by omega, hSP, Nat.le_refl _, rfl, rfl, by go_num, rfl, by go_num, (G.mres_back hSN (by rw [len_l]; exact hSP) (by rw [len_l]; exact hn) (by rw [len_l]; omega) (by rw [len_l]; omega) (by rw [len_l]; omega) hsp0).symm.trans hres.out, Nat.le_refl _, hwr⟩
    · have hsome : Aside (G.mres s.data.toList t.data.toList 0 0 0 0 = some P) := hres.out.symm.trans (G.mres_end (by rw [len_l]; exact hn))
      go_wp2
      go_loopg [5] (s.size - P) (fun g p wr => ∃ Q : Nat, Q ≤ s.size ∧ p = .int .i64 Q ∧ Aside (G.sk s.data.toList P = G.sk s.data.toList Q) ∧ Aside (s.size - Q ≤ g) ∧ Aside (∃ m, wr = w.drewN m))
      case atStart => exact ⟨P, hP, rfl, rfl, Nat.le_refl _, hwr⟩
      case round =>
        obtain ⟨Q, hQ, rfl, hsk, hg, hwr2⟩ := hrel
        by_cases hq : Q < s.size
        · have hb := byt_at s Q hq
          have HB : Aside (G.byt s.data.toList Q = s[Q].toNat) := hb
          clear hb
          by_cases h42 : ((s[Q].toNat : Int) == 42) = true
          · go_wp2
            go_roundg (s.size - (Q + 1))
            case measure => have := hg.out; omega
            case rel => exact ⟨Q + 1, by omega, by go_num, hsk.out.trans (G.sk_star (by rw [len_l]; exact hq) (by rw [HB.out]; simp at h42; omega)), Nat.le_refl _, hwr2⟩
          · have h42' : ((s[Q].toNat : Int) == 42) = false := by simpa using h42
            go_wp2
            go_ret
            exact ⟨ret_bool (by rw [G.matchP_some hsome.out, hsk.out, G.sk_stop (by rw [HB.out]; simp at h42; omega), len_l, Bool.eq_iff_iff]; simp; omega), hwr2.out⟩
        · have hd : decide ((Q : Int) < (s.size : Int)) = false := decide_eq_false (by omega)
          go_wp2
          go_ret
          exact ⟨ret_bool (by rw [G.matchP_some hsome.out, hsk.out, G.sk_stop (by rw [len_l]; omega), len_l, Bool.eq_iff_iff]; simp; omega), hwr2.out⟩
end Go.Proofs.Qxb6603704a
