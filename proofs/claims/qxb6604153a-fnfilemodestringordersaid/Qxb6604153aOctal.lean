/-
  THE OCTAL NUMERAL: the plain laws and the walk.
-/
import Derived.Test.Qxb6604153aMode
namespace Go.Proofs.Qxb6604153a
open Go.RowKit

theorem size_len (s : ByteArray) : s.data.toList.length = s.size := by rw [Array.length_toList]; rfl
theorem get_len (s : ByteArray) (j : Nat) (h : j < s.size) : s.data.toList[j]? = some s[j] := by
  rw [List.getElem?_eq_getElem (by rw [size_len]; exact h)]
  rfl

theorem ret_bool {a b : Bool} (h : a = b) : Ending.returned (.bool a) = .returned (.bool b) := by rw [h]

theorem pow_lt {a b m : Nat} (h1 : 8 ^ a ≤ m) (h2 : m < 8 ^ b) : a < b := by
  rcases Nat.lt_or_ge a b with c | c
  · exact c
  · have := Nat.pow_le_pow_right (n := 8) (by decide) c
    omega

/-- The numeral's length. -/
theorem want_eq {m T k : Nat} (hT : 6 ≤ T) (hm : m < 8 ^ T) (hT' : T = 6 ∨ 8 ^ (T - 1) ≤ m) (hk : m < 8 ^ k) (hk' : k = 0 ∨ 8 ^ (k - 1) ≤ m) :
    (k < 6 → T = 6) ∧ (¬k < 6 → T = k) := by
  refine ⟨fun c => ?_, fun c => ?_⟩
  · rcases hT' with h | h
    · exact h
    · have := pow_lt h hk; omega
  · rcases hk' with h' | h'
    · omega
    · have h1 := pow_lt h' hm
      rcases hT' with h | h
      · omega
      · have := pow_lt h hk; omega

theorem dig_at {S : ByteArray} {m T : Nat} (h : S.data.toList = (oct m T).map ub) (j : Nat) (hj : j < S.size) (hs : S.size = T) : S[j].toNat = 48 + (m / 8 ^ (T - 1 - j)) % 8 := by
  have h1 := get_len S j hj
  rw [h, List.getElem?_map, oct_get m T j (by omega)] at h1
  have h2 : ub ((48 + (m / 8 ^ (T - 1 - j)) % 8 : Nat) : Int) = S[j] := Option.some.inj h1
  rw [← h2]
  unfold ub
  rw [Int.toNat_natCast, UInt8.toNat_ofNat_of_lt' (by
    have : 48 + (m / 8 ^ (T - 1 - j)) % 8 ≤ 255 := by omega
    exact Nat.lt_of_le_of_lt this (by decide))]

theorem str_size {S : ByteArray} {m T : Nat} (h : S.data.toList = (oct m T).map ub) : S.size = T := by
  rw [← size_len, h, List.length_map, oct_length]

theorem acc_step (m T j : Nat) (h : j < T) : m / 8 ^ (T - j) * 8 + m / 8 ^ (T - 1 - j) % 8 = m / 8 ^ (T - (j + 1)) := by
  rw [show T - j = (T - 1 - j).succ by omega, Nat.pow_succ, ← Nat.div_div_eq_div_mul, show T - (j + 1) = T - 1 - j by omega]
  omega

set_option maxRecDepth 100000 in
set_option maxHeartbeats 2000000 in
theorem octal_run (m : Nat) (hm : m < 4294967296) (w : World) :
    Calls Try.prog 3 #[.int .u32 (m : Int)] w fun e w' => e = .returned (.bool true) ∧ Stp w w' := by
  go_enter Try.func3, Try.ntmps3
  go_wp2_with fail
  refine (str_any m hm w).mono ?_
  rintro e w1 ⟨S, T, rfl, hS, h6, h11, hmT, hT, st⟩
  obtain rfl := str_size hS
  have HS : Hid (S.data.toList = (oct m S.size).map ub) := hS
  have HMT : Hid (m < 8 ^ S.size) := hmT
  have HT : Hid (S.size = 6 ∨ 8 ^ (S.size - 1) ≤ m) := hT
  clear hS hmT hT
  go_wp2
  go_loopg [4, 5] 12 (fun n s4 s5 wr => ∃ k p : Nat, k ≤ 11 ∧ n = 12 - k ∧ Hid (p = 8 ^ k) ∧ Hid (k = 0 ∨ 8 ^ (k - 1) ≤ m) ∧ s4 = .int .i64 (k : Int) ∧ s5 = .int .u64 (p : Int) ∧ wr = w1)
  case atStart => exact ⟨0, 1, by omega, rfl, rfl, Or.inl rfl, rfl, rfl, rfl⟩
  case round =>
    obtain ⟨k, p, hk, hn, HP, HK, rfl, rfl, rfl⟩ := hrel
    have HN : Hid (gk = 12 - k) := hn
    clear hn
    by_cases hpm : p ≤ m
    · have hpb : p < 4294967296 := by omega
      have hk10 : k < 11 := pow_lt (m := m) (by rw [← HP.out]; exact hpm) (Nat.lt_of_lt_of_le hm (by decide))
      go_wp2
      go_roundg (12 - (k + 1))
      case measure => have := HN.out; omega
      case rel => exact ⟨k + 1, p * 8, by omega, rfl, by show p * 8 = 8 ^ (k + 1); rw [HP.out, Nat.pow_succ], Or.inr (by show 8 ^ k ≤ m; rw [← HP.out]; exact hpm), by go_num, by go_num, rfl⟩
    · have hw := want_eq h6 HMT.out HT.out (k := k) (by rw [← HP.out]; omega) HK.out
      have hpb : p ≤ 8589934592 := by
        rw [HP.out]
        exact Nat.le_trans (Nat.pow_le_pow_right (by decide) hk) (by decide)
      by_cases c6 : k < 6
      · have hsz : S.size = 6 := hw.1 c6
        have hd6 : decide ((k : Int) < 6) = true := by rw [decide_eq_true_iff]; omega
        clear hw
        go_wp2
        go_loopg [7, 8] S.size (fun n s7 s8 wq => ∃ j a : Nat, j ≤ S.size ∧ n = S.size - j ∧ Hid (a = m / 8 ^ (S.size - j)) ∧ s7 = .int .u64 (a : Int) ∧ s8 = .int .i64 (j : Int) ∧ wq = wr)
        case atStart => exact ⟨0, 0, by omega, rfl, by show 0 = m / 8 ^ (S.size - 0); exact (Nat.div_eq_of_lt HMT.out).symm, rfl, rfl, rfl⟩
        case round =>
          obtain ⟨j, a, hj, hn2, HA, rfl, rfl, rfl⟩ := hrel
          have HN2 : Hid (gk = S.size - j) := hn2
          clear hn2
          have hab : a < 4294967296 := by rw [HA.out]; exact Nat.lt_of_le_of_lt (Nat.div_le_self _ _) hm
          by_cases hlt : j < S.size
          · obtain ⟨q, hq⟩ : ∃ q, q = m / 8 ^ (S.size - 1 - j) % 8 := ⟨_, rfl⟩
            have hd := dig_at HS.out j hlt rfl
            rw [← hq] at hd
            have hst := acc_step m S.size j hlt
            rw [← hq, ← HA.out] at hst
            have HST : Hid (a * 8 + q = m / 8 ^ (S.size - (j + 1))) := hst
            have hq7 : q < 8 := by omega
            clear hst hq
            go_wp2
            go_roundg (S.size - (j + 1))
            case measure => have := HN2.out; omega
            case rel => exact ⟨j + 1, a * 8 + q, by omega, rfl, HST, by go_num, by go_num, rfl⟩
          · have ham : a = m := by rw [HA.out, show S.size - j = 0 by omega]; simp
            subst ham
            go_wp2
            go_ret
            exact ⟨ret_bool (by simp), st⟩
      · have hsz : S.size = k := hw.2 c6
        clear hw
        go_wp2
        go_loopg [7, 8] S.size (fun n s7 s8 wq => ∃ j a : Nat, j ≤ S.size ∧ n = S.size - j ∧ Hid (a = m / 8 ^ (S.size - j)) ∧ s7 = .int .u64 (a : Int) ∧ s8 = .int .i64 (j : Int) ∧ wq = wr)
        case atStart => exact ⟨0, 0, by omega, rfl, by show 0 = m / 8 ^ (S.size - 0); exact (Nat.div_eq_of_lt HMT.out).symm, rfl, rfl, rfl⟩
        case round =>
          obtain ⟨j, a, hj, hn2, HA, rfl, rfl, rfl⟩ := hrel
          have HN2 : Hid (gk = S.size - j) := hn2
          clear hn2
          have hab : a < 4294967296 := by rw [HA.out]; exact Nat.lt_of_le_of_lt (Nat.div_le_self _ _) hm
          by_cases hlt : j < S.size
          · obtain ⟨q, hq⟩ : ∃ q, q = m / 8 ^ (S.size - 1 - j) % 8 := ⟨_, rfl⟩
            have hd := dig_at HS.out j hlt rfl
            rw [← hq] at hd
            have hst := acc_step m S.size j hlt
            rw [← hq, ← HA.out] at hst
            have HST : Hid (a * 8 + q = m / 8 ^ (S.size - (j + 1))) := hst
            have hq7 : q < 8 := by omega
            clear hst hq
            go_wp2
            go_roundg (S.size - (j + 1))
            case measure => have := HN2.out; omega
            case rel => exact ⟨j + 1, a * 8 + q, by omega, rfl, HST, by go_num, by go_num, rfl⟩
          · have ham : a = m := by rw [HA.out, show S.size - j = 0 by omega]; simp
            subst ham
            go_wp2
            go_ret
            exact ⟨ret_bool (by simp), st⟩
end Go.Proofs.Qxb6604153a
