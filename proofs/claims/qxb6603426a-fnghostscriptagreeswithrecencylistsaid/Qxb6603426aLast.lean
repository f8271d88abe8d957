/-
  THE PLAIN LAW OF 'the last distinct': adding one hash after another remembers just the last 'lim' distinct ones, counted from the end.
-/
import Derived.Test.Qxb6603426aPlain
namespace Go.Proofs.Qxb6603426a
open Go.Maps

/-- What the law's second loop gathers, from the end. -/
def keep (lim : Nat) : List Int → List Int → List Int
  | K, [] => K
  | K, y :: ys => if lim ≤ K.length then K else if y ∈ K then keep lim K ys else keep lim (K ++ [y]) ys

/-- The distinct ones beyond K. -/
def dd : List Int → List Int → List Int
  | _, [] => []
  | K, y :: ys => if y ∈ K then dd K ys else y :: dd (K ++ [y]) ys

theorem keep_full (lim : Nat) (K ys : List Int) (h : lim ≤ K.length) : keep lim K ys = K := by
  cases ys with
  | nil => rfl
  | cons y ys => simp [keep, h]

theorem keep_eq (lim : Nat) : ∀ (ys K : List Int), K.length ≤ lim → keep lim K ys = K ++ (dd K ys).take (lim - K.length)
  | [], K, _ => by simp [keep, dd]
  | y :: ys, K, hK => by
    by_cases h1 : lim ≤ K.length
    · rw [keep_full lim K _ h1, show lim - K.length = 0 by omega]
      simp
    · by_cases h2 : y ∈ K
      · simp only [keep, dd, h1, h2, if_true, if_false]
        exact keep_eq lim ys K hK
      · simp only [keep, dd, h1, h2, if_false]
        rw [keep_eq lim ys (K ++ [y]) (by simp; omega)]
        obtain ⟨d, hd⟩ : ∃ d, lim - K.length = d + 1 := ⟨lim - K.length - 1, by omega⟩
        rw [hd, List.take_succ_cons, show lim - (K ++ [y]).length = d by simp; omega]
        simp

theorem dd_congr : ∀ (ys K K' : List Int), (∀ x, x ∈ K ↔ x ∈ K') → dd K ys = dd K' ys
  | [], _, _, _ => rfl
  | y :: ys, K, K', h => by
    by_cases h1 : y ∈ K
    · have h2 := (h y).1 h1
      simp only [dd, h1, h2, if_true]
      exact dd_congr ys K K' h
    · have h2 : ¬ y ∈ K' := fun h2 => h1 ((h y).2 h2)
      simp only [dd, h1, h2, if_false]
      rw [dd_congr ys (K ++ [y]) (K' ++ [y]) (fun x => by simp [h x])]

theorem not_mem_dd : ∀ (ys K : List Int) (x : Int), x ∈ K → x ∉ dd K ys
  | [], _, _, _ => by simp [dd]
  | y :: ys, K, x, hx => by
    by_cases h1 : y ∈ K
    · simp only [dd, h1, if_true]
      exact not_mem_dd ys K x hx
    · simp only [dd, h1, if_false, List.mem_cons, not_or]
      exact ⟨fun e => h1 (e ▸ hx), not_mem_dd ys (K ++ [y]) x (by simp [hx])⟩

theorem dd_nodup : ∀ (ys K : List Int), (dd K ys).Nodup
  | [], _ => by simp [dd]
  | y :: ys, K => by
    by_cases h1 : y ∈ K
    · simp only [dd, h1, if_true]
      exact dd_nodup ys K
    · simp only [dd, h1, if_false, List.nodup_cons]
      exact ⟨not_mem_dd ys (K ++ [y]) y (by simp), dd_nodup ys (K ++ [y])⟩

theorem rm_cons_same (L : List Int) (h : Int) : rm (h :: L) h = rm L h := by simp [rm]
theorem rm_cons_other {L : List Int} {y h : Int} (hne : y ≠ h) : rm (y :: L) h = y :: rm L h := by simp [rm, hne]

theorem dd_snoc (h : Int) : ∀ (ys K : List Int), dd (K ++ [h]) ys = rm (dd K ys) h
  | [], _ => by simp [dd, rm]
  | y :: ys, K => by
    by_cases h1 : y ∈ K
    · have h2 : y ∈ K ++ [h] := by simp [h1]
      simp only [dd, h1, h2, if_true]
      exact dd_snoc h ys K
    · by_cases e : y = h
      · subst e
        have h2 : y ∈ K ++ [y] := by simp
        simp only [dd, h1, h2, if_true, if_false]
        rw [rm_cons_same, rm_of_not_mem (not_mem_dd ys (K ++ [y]) y h2)]
      · have h2 : ¬ y ∈ K ++ [h] := by simp [h1, e]
        simp only [dd, h1, h2, if_false]
        rw [rm_cons_other e, ← dd_snoc h ys (K ++ [y])]
        congr 1
        exact dd_congr ys _ _ (fun x => by simp; constructor <;> (rintro (a | a | a) <;> simp [a]))

theorem take_rm : ∀ (T : List Int) (h : Int) (k : Nat), T.Nodup → (rm (T.take (k + 1)) h).take k = (rm T h).take k
  | [], _, _, _ => by simp
  | t :: T, h, k, hn => by
    obtain ⟨h1, h2⟩ := List.nodup_cons.1 hn
    rw [List.take_succ_cons]
    by_cases e : t = h
    · subst e
      rw [rm_cons_same, rm_cons_same, rm_of_not_mem h1, rm_of_not_mem (fun hm => h1 (List.mem_of_mem_take hm)), List.take_take, Nat.min_self]
    · rw [rm_cons_other e, rm_cons_other e]
      cases k with
      | zero => simp
      | succ k => rw [List.take_succ_cons, List.take_succ_cons, take_rm T h k h2]

theorem rm_reverse (L : List Int) (h : Int) : rm L.reverse h = (rm L h).reverse := by simp [rm]

/-- What add does, from the newest on. -/
theorem gAdd_reverse {lim : Nat} (hl : 0 < lim) (T : List Int) (h : Int) (hT : T.length ≤ lim) : (gAdd lim T.reverse h).reverse = (h :: rm T h).take lim := by
  have hle := length_rm_le T h
  unfold gAdd
  rw [if_neg (by omega), rm_reverse]
  split
  · rename_i hlt
    simp at hlt
    have hlen : (rm T h).length = lim := by omega
    have e : ((rm T h).reverse ++ [h]).drop 1 = ((h :: rm T h).take lim).reverse := by
      have e1 : (rm T h).reverse ++ [h] = (h :: rm T h).reverse := by simp
      rw [e1, List.drop_reverse]
      congr 1
      simp [hlen]
    rw [e, List.reverse_reverse]
  · rename_i hlt
    simp at hlt
    simp only [List.reverse_append, List.reverse_reverse, List.reverse_cons, List.reverse_nil, List.nil_append, List.singleton_append]
    rw [List.take_of_length_le (by simp; omega)]

theorem foldl_gAdd (lim : Nat) (xs : List Int) : xs.foldl (gAdd lim) [] = (keep lim [] xs.reverse).reverse := by
  by_cases hl : lim = 0
  · subst hl
    rw [keep_full 0 [] _ (Nat.zero_le _)]
    induction xs with
    | nil => rfl
    | cons x xs ih =>
      have e : gAdd 0 [] x = [] := by simp [gAdd]
      rw [List.foldl_cons, e]
      exact ih
  · -- from the front on, by what is still to come: the list is turned round
    have key : ∀ ys : List Int, (ys.reverse.foldl (gAdd lim) []) = (keep lim [] ys).reverse := by
      intro ys
      induction ys with
      | nil => rfl
      | cons y ys ih =>
        rw [List.reverse_cons, List.foldl_append, List.foldl_cons, List.foldl_nil, ih]
        have e1 : keep lim [] ys = (dd [] ys).take lim := by rw [keep_eq lim ys [] (Nat.zero_le _)]; simp
        have e2 : keep lim [] (y :: ys) = (dd [] (y :: ys)).take lim := by rw [keep_eq lim (y :: ys) [] (Nat.zero_le _)]; simp
        have e3 : dd [] (y :: ys) = y :: rm (dd [] ys) y := by
          simp only [dd, List.not_mem_nil, if_false]
          rw [dd_snoc]
        have h1 := gAdd_reverse (lim := lim) (by omega) (keep lim [] ys) y (by rw [e1]; simp; omega)
        have h2 : (y :: rm (keep lim [] ys) y).take lim = keep lim [] (y :: ys) := by
          rw [e1, e2, e3]
          obtain ⟨d, rfl⟩ : ∃ d, lim = d + 1 := ⟨lim - 1, by omega⟩
          rw [List.take_succ_cons, List.take_succ_cons, take_rm _ _ _ (dd_nodup ys [])]
        rw [← h2, ← h1, List.reverse_reverse]
    have := key xs.reverse
    rw [List.reverse_reverse] at this
    exact this

theorem foldl_mem (lim : Nat) (xs : List Int) (x : Int) : x ∈ xs.foldl (gAdd lim) [] ↔ x ∈ keep lim [] xs.reverse := by
  rw [foldl_gAdd]
  simp

end Go.Proofs.Qxb6603426a
