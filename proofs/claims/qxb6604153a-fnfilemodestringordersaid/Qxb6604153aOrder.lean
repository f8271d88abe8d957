/-
  THE ORDER OF THE NUMERALS: the plain laws and the walk.
-/
import Derived.Test.Qxb6604153aOctal
namespace Go.Proofs.Qxb6604153a
open Go.RowKit

theorem oct_mod (a T : Nat) : ∀ k, k ≤ T → oct (a % 8 ^ T) k = oct a k
  | 0, _ => rfl
  | k + 1, h => by
    simp only [oct]
    rw [oct_mod a T k (by omega)]
    have e : 8 ^ T = 8 ^ k * 8 ^ (T - k) := by rw [← Nat.pow_add, show k + (T - k) = T by omega]
    have d : 8 ∣ 8 ^ (T - k) := ⟨8 ^ (T - k - 1), by rw [← Nat.pow_succ', show (T - k - 1).succ = T - k by omega]⟩
    rw [e, Nat.mod_mul_right_div_self, Nat.mod_mod_of_dvd _ d]

theorem toNat_ub {n : Nat} (h : n ≤ 255) : (ub (n : Int)).toNat = n := by
  unfold ub
  rw [Int.toNat_natCast, UInt8.toNat_ofNat_of_lt' (Nat.lt_of_le_of_lt h (by decide))]

/-- Of numerals of one length, the bytes' order is the numbers'. -/
theorem less_oct : ∀ (T a b : Nat), a < 8 ^ T → b < 8 ^ T → Op.bytesLess ((oct a T).map ub) ((oct b T).map ub) = decide (a < b)
  | 0, a, b, ha, hb => by
    have : a = 0 := by simpa using ha
    have : b = 0 := by simpa using hb
    subst a b
    rfl
  | T + 1, a, b, ha, hb => by
    have hp : 0 < 8 ^ T := Nat.pow_pos (by decide)
    have ih := less_oct T (a % 8 ^ T) (b % 8 ^ T) (Nat.mod_lt _ hp) (Nat.mod_lt _ hp)
    rw [oct_mod a T T (Nat.le_refl _), oct_mod b T T (Nat.le_refl _)] at ih
    simp only [oct, List.map_cons, Op.bytesLess]
    rw [ih]
    rw [Nat.pow_succ] at ha hb
    have qa : a / 8 ^ T < 8 := Nat.div_lt_of_lt_mul ha
    have qb : b / 8 ^ T < 8 := Nat.div_lt_of_lt_mul hb
    have ea := Nat.div_add_mod a (8 ^ T)
    have eb := Nat.div_add_mod b (8 ^ T)
    have ra := Nat.mod_lt a hp
    have rb := Nat.mod_lt b hp
    have h1 := toNat_ub (n := 48 + a / 8 ^ T % 8) (by omega)
    have h2 := toNat_ub (n := 48 + b / 8 ^ T % 8) (by omega)
    generalize ub ((48 + a / 8 ^ T % 8 : Nat) : Int) = x at h1 ⊢
    generalize ub ((48 + b / 8 ^ T % 8 : Nat) : Int) = y at h2 ⊢
    rw [Nat.mod_eq_of_lt qa] at h1
    rw [Nat.mod_eq_of_lt qb] at h2
    generalize a / 8 ^ T = p at *
    generalize b / 8 ^ T = q at *
    generalize a % 8 ^ T = r at *
    generalize b % 8 ^ T = t at *
    generalize 8 ^ T = P at *
    have ex : (x < y) ↔ p < q := by rw [UInt8.lt_iff_toNat_lt]; omega
    have ey : (x == y) = decide (p = q) := by
      by_cases c : p = q
      · rw [decide_eq_true c, beq_iff_eq]
        exact UInt8.toNat_inj.1 (by omega)
      · rw [decide_eq_false c, beq_eq_false_iff_ne]
        intro e
        subst e
        omega
    rw [ey]
    rcases Nat.lt_trichotomy p q with c | c | c
    · have : P * p + P ≤ P * q := by rw [← Nat.mul_succ]; exact Nat.mul_le_mul_left _ c
      rw [decide_eq_true (ex.2 c), decide_eq_true (show a < b by omega), Bool.true_or]
    · subst c
      rw [decide_eq_false (fun h => Nat.lt_irrefl _ (ex.1 h)), decide_eq_true rfl, Bool.false_or, Bool.true_and]
      by_cases d : r < t
      · rw [decide_eq_true d, decide_eq_true (show a < b by omega)]
      · rw [decide_eq_false d, decide_eq_false (show ¬a < b by omega)]
    · have : P * q + P ≤ P * p := by rw [← Nat.mul_succ]; exact Nat.mul_le_mul_left _ c
      rw [decide_eq_false (fun h => by have := ex.1 h; omega), decide_eq_false (show ¬p = q by omega), decide_eq_false (show ¬a < b by omega)]
      rfl

theorem oct_inj {T a b : Nat} (ha : a < 8 ^ T) (hb : b < 8 ^ T) (h : (oct a T).map ub = (oct b T).map ub) : a = b := by
  have h1 := less_oct T a b ha hb
  have h2 := less_oct T b a hb ha
  have h3 := less_oct T a a ha ha
  rw [← h] at h1 h2
  rw [h3, decide_eq_false (Nat.lt_irrefl a)] at h1 h2
  have h1 := of_decide_eq_false h1.symm
  have h2 := of_decide_eq_false h2.symm
  omega

/-- Numerals of other lengths. -/
theorem len_less {a b T U : Nat} (ha : a < 8 ^ T) (hU : U = 6 ∨ 8 ^ (U - 1) ≤ b) (hT : 6 ≤ T) (h : T < U) : a < b := by
  rcases hU with c | c
  · omega
  · exact Nat.lt_of_lt_of_le (Nat.lt_of_lt_of_le ha (Nat.pow_le_pow_right (by decide) (by omega))) c

set_option maxRecDepth 100000 in
set_option maxHeartbeats 2000000 in
theorem order_run (a b : Nat) (ha : a < 4294967296) (hb : b < 4294967296) (w : World) :
    Calls Try.prog 4 #[.int .u32 (a : Int), .int .u32 (b : Int)] w fun e w' => e = .returned (.bool true) ∧ Stp w w' := by
  go_enter Try.func4, Try.ntmps4
  go_wp2_with fail
  refine (str_any a ha w).mono ?_
  rintro e w1 ⟨S, T, rfl, hS, h6, h11, haT, hT, st⟩
  obtain rfl := str_size hS
  have HS : Hid (S.data.toList = (oct a S.size).map ub) := hS
  have HAT : Hid (a < 8 ^ S.size) := haT
  have HT : Hid (S.size = 6 ∨ 8 ^ (S.size - 1) ≤ a) := hT
  clear hS haT hT
  go_wp2_with fail
  refine (str_any b hb w1).mono ?_
  rintro e w2 ⟨R, T, rfl, hR, g6, g11, hbT, hU, st2⟩
  obtain rfl := str_size hR
  have HR : Hid (R.data.toList = (oct b R.size).map ub) := hR
  have HBT : Hid (b < 8 ^ R.size) := hbT
  have HU : Hid (R.size = 6 ∨ 8 ^ (R.size - 1) ≤ b) := hU
  clear hR hbT hU
  have heq : (S.toList == R.toList) = ((a : Int) == (b : Int)) := by
    rw [ByteArray.toList_eq, ByteArray.toList_eq, HS.out, HR.out]
    by_cases c : a = b
    · subst c
      have : S.size = R.size := by
        rcases Nat.lt_trichotomy S.size R.size with d | d | d
        · have := len_less HAT.out HU.out h6 d; omega
        · exact d
        · have := len_less HBT.out HT.out g6 d; omega
      rw [this, beq_self_eq_true, beq_self_eq_true]
    · rw [beq_eq_false_iff_ne.2 (show (a : Int) ≠ (b : Int) by omega), beq_eq_false_iff_ne]
      intro e
      have hl := congrArg List.length e
      rw [List.length_map, List.length_map, oct_length, oct_length] at hl
      rw [← hl] at e
      exact c (oct_inj HAT.out (by rw [hl]; exact HBT.out) e)
  by_cases hne : S.size = R.size
  · have hl : Op.bytesLess S.toList R.toList = decide (a < b) := by
      rw [ByteArray.toList_eq, ByteArray.toList_eq, HS.out, HR.out, hne]
      exact less_oct R.size a b (by rw [← hne]; exact HAT.out) HBT.out
    have hl' : (Op.bytesLess S.toList R.toList == decide (a < b)) = true := by rw [hl]; simp
    go_wp2
    go_ret
    exact ⟨ret_bool (by simp), st.trans st2⟩
  · by_cases hlt : S.size < R.size
    · have hab := len_less HAT.out HU.out h6 hlt
      go_wp2
      go_ret
      exact ⟨ret_bool (by simp), st.trans st2⟩
    · have hab := len_less HBT.out HT.out g6 (by omega)
      go_wp2
      go_ret
      exact ⟨ret_bool (by simp; omega), st.trans st2⟩
end Go.Proofs.Qxb6604153a
