/-
  isLowerHex, strings.CutPrefix at a dot, isToken: the walks, and the plain functions that they compute.
-/
import Derived.Test.Qxb6603750aRows
import Derived.WalkKit
import Derived.WalkSpells
import Derived.WalkLawsBesides
import Derived.Deep.LoopGhost
import Derived.Lib.IndexBytes

namespace Go.Proofs.Qxb6603750a
open Go.RowKit

def hexc (c : UInt8) : Bool := (48 ≤ c && c ≤ 57) || (97 ≤ c && c ≤ 102)
def hexB (l : List UInt8) : Bool := !l.isEmpty && l.length % 2 == 0 && l.all hexc

theorem hexc_iff (c : UInt8) : hexc c = true ↔ ((48 : Int) ≤ (c.toNat : Int) ∧ (c.toNat : Int) ≤ 57) ∨ ((97 : Int) ≤ (c.toNat : Int) ∧ (c.toNat : Int) ≤ 102) := by
  simp [hexc, UInt8.le_iff_toNat_le]
  omega

theorem hexB_false_at {l : List UInt8} {j : Nat} {c : UInt8} (hc : l[j]? = some c) (h : hexc c = false) : hexB l = false := by
  have : l.all hexc = false := by
    rw [List.all_eq_false]
    exact ⟨c, List.mem_of_getElem? hc, by simp [h]⟩
  simp [hexB, this]

theorem hexB_true {l : List UInt8} (he : l ≠ []) (hm : l.length % 2 = 0) (h : ∀ (i : Nat) (c : UInt8), l[i]? = some c → hexc c = true) : hexB l = true := by
  have h1 : l.all hexc = true := by
    rw [List.all_eq_true]
    intro c hc
    obtain ⟨i, hi, e⟩ := List.getElem_of_mem hc
    exact h i c (by rw [List.getElem?_eq_getElem hi, e])
  have h2 : l.isEmpty = false := by simpa using he
  simp [hexB, h1, h2, hm]

theorem ret_bool {a b : Bool} (h : a = b) : Ending.returned (.bool a) = .returned (.bool b) := by rw [h]

theorem size_len (s : ByteArray) : s.data.toList.length = s.size := by rw [Array.length_toList]; rfl
theorem get_len (s : ByteArray) (j : Nat) (h : j < s.size) : s.data.toList[j]? = some s[j] := by
  rw [List.getElem?_eq_getElem (by rw [size_len]; exact h)]
  rfl

set_option maxHeartbeats 1000000 in
theorem lower_run (s : ByteArray) (w : World) (hs : s.size ≤ maxLen) :
    Calls Try.prog 21 #[.string s] w fun e w' => e = .returned (.bool (hexB s.data.toList)) ∧ w = w' := by
  unfold maxLen at hs
  obtain ⟨b, hb⟩ : ∃ b, hexB s.data.toList = b := ⟨_, rfl⟩
  rw [hb]
  have HB : Hid (hexB s.data.toList = b) := hb
  clear hb
  have htl : s.toList = s.data.toList := ByteArray.toList_eq s
  cases he : s.toList.isEmpty
  · by_cases hm : s.size % 2 = 0
    · have hm' : ((s.size : Int) % 2 != 0) = false := by simp; omega
      have HM : Hid (s.size % 2 = 0) := hm
      have HE : Hid (s.data.toList ≠ []) := by rw [← htl]; show s.toList ≠ []; simpa using he
      clear hm htl
      go_enter Try.func21, Try.ntmps21
      go_wp2
      go_loopg [15] s.size (fun k s15 wr => ∃ j : Nat, j ≤ s.size ∧ k = s.size - j ∧ s15 = .int .i64 (j : Int) ∧ wr = w ∧ Hid (∀ i, i < j → ∀ c, s.data.toList[i]? = some c → hexc c = true))
      case atStart => exact ⟨0, Nat.zero_le _, rfl, rfl, rfl, fun i hi => by omega⟩
      case round =>
        obtain ⟨j, hj, hk, rfl, rfl, HR⟩ := hrel
        have HK : Hid (gk = s.size - j) := hk
        clear hk
        by_cases hlt : j < s.size
        · have HC := hexc_iff s[j]
          have HC' : Hid (hexc s[j] = true ↔ ((48 : Int) ≤ (s[j].toNat : Int) ∧ (s[j].toNat : Int) ≤ 57) ∨ ((97 : Int) ≤ (s[j].toNat : Int) ∧ (s[j].toNat : Int) ≤ 102)) := HC
          clear HC
          go_wp2
          all_goals first
            | (go_ret
               refine ⟨ret_bool ?_, rfl⟩
               rw [← HB.out]
               exact (hexB_false_at (get_len s j hlt) (by rw [Bool.eq_false_iff]; intro h; have h' := HC'.out.1 h; omega)).symm)
            | (have hyes : hexc s[j] = true := HC'.out.2 (by omega)
               go_roundg (s.size - (j + 1))
               case measure => have := HK.out; omega
               case rel =>
                 refine ⟨j + 1, by omega, rfl, by go_num, rfl, fun i hi c hc => ?_⟩
                 by_cases e : i = j
                 · subst e
                   rw [get_len s i hlt] at hc
                   have := Option.some.inj hc
                   subst this
                   exact hyes
                 · exact HR.out i (by omega) c hc)
        · go_wp2
          go_ret
          refine ⟨ret_bool ?_, rfl⟩
          rw [← HB.out]
          exact (hexB_true HE.out (by rw [size_len]; exact HM.out) (fun i c hc => HR.out i (by have := (List.getElem?_eq_some_iff.1 hc).1; rw [size_len] at this; omega) c hc)).symm
    · have hm' : ((s.size : Int) % 2 != 0) = true := by simp; omega
      have HM : Hid (¬ s.size % 2 = 0) := hm
      clear hm htl
      go_enter Try.func21, Try.ntmps21
      go_wp2
      go_ret
      refine ⟨ret_bool ?_, rfl⟩
      rw [← HB.out]
      have h1 : ((s.data.toList.length % 2) == 0) = false := by rw [size_len]; simpa using HM.out
      simp only [hexB, h1, Bool.and_false, Bool.false_and]
  · have HE : Hid (s.data.toList.isEmpty = true) := by rw [← htl]; exact he
    clear htl
    go_enter Try.func21, Try.ntmps21
    go_wp2
    go_ret
    refine ⟨ret_bool ?_, rfl⟩
    rw [← HB.out, hexB, HE.out]
    rfl

theorem lower_any (s : ByteArray) (w : World) (hs : s.size ≤ maxLen) {b : Bool} (hb : Hid (hexB s.data.toList = b)) :
    Calls Try.prog 21 #[.string s] w fun e w' => e = .returned (.bool b) ∧ w = w' := by
  have := lower_run s w hs
  rw [hb.out] at this
  exact this

def dotB (t : ByteArray) : Bool := t.data.toList.head? == some 46

theorem dot_take (t : ByteArray) (h : 1 ≤ t.size) : ((t.extract 0 1).toList == [46]) = dotB t := by
  rw [ByteArray.toList_eq, Lib.extract_data]
  unfold dotB
  have hl := size_len t
  cases hd : t.data.toList with
  | nil => rw [hd] at hl; simp at hl; omega
  | cons c r => simp

theorem dot_empty (t : ByteArray) (h : t.size < 1) : dotB t = false := by
  have hl := size_len t
  have : t.data.toList = [] := List.eq_nil_of_length_eq_zero (by omega)
  simp [dotB, this]

set_option maxHeartbeats 400000 in
theorem has_run (t : ByteArray) (w : World) (hs : t.size ≤ maxLen) {b : Bool} (hb : Hid (dotB t = b)) :
    Calls Try.prog 34 #[.string t, .string ⟨#[46]⟩] w fun e w' => e = .returned (.bool b) ∧ w = w' := by
  unfold maxLen at hs
  by_cases h1 : (1 : Int) ≤ (t.size : Int)
  · go_enter Try.func34, Try.ntmps34
    go_wp2
    go_ret
    exact ⟨ret_bool (by rw [← hb.out]; exact dot_take t (by omega)), rfl⟩
  · go_enter Try.func34, Try.ntmps34
    go_wp2
    go_ret
    exact ⟨ret_bool (by rw [← hb.out, dot_empty t (by omega)]), rfl⟩

theorem dot_size {t : ByteArray} (h : dotB t = true) : 1 ≤ t.size := by
  rcases Nat.lt_or_ge t.size 1 with h1 | h1
  · rw [dot_empty t h1] at h; cases h
  · exact h1

set_option maxHeartbeats 400000 in
theorem cut_yes (t : ByteArray) (w : World) (hs : t.size ≤ maxLen) (hb : dotB t = true) :
    Calls Try.prog 29 #[.string t, .string ⟨#[46]⟩] w fun e w' => e = .returned (.tuple #[.string (t.extract 1 t.size), .bool true]) ∧ w = w' := by
  have h1 := dot_size hb
  have h1' : (1 : Int) ≤ (t.size : Int) := by omega
  have HB : Hid (dotB t = true) := hb
  clear hb
  have hs2 := hs
  unfold maxLen at hs
  have h32 : Calls Try.prog 32 #[.string t, .string ⟨#[46]⟩] w fun e w' => e = .returned (.tuple #[.string (t.extract 1 t.size), .bool true]) ∧ w = w' := by
    go_enter Try.func32, Try.ntmps32
    go_wp2_with (go_at_call 34; refine (has_run t _ hs2 HB).mono ?_; rintro e w' ⟨rfl, rfl⟩)
    go_ret2
    exact ⟨rfl, rfl⟩
  go_enter Try.func29, Try.ntmps29
  go_wp2_with (go_at_call 32; refine h32.mono ?_; rintro e w' ⟨rfl, rfl⟩)
  go_ret2
  exact ⟨rfl, rfl⟩

set_option maxHeartbeats 400000 in
theorem cut_no (t : ByteArray) (w : World) (hs : t.size ≤ maxLen) (hb : dotB t = false) :
    Calls Try.prog 29 #[.string t, .string ⟨#[46]⟩] w fun e w' => e = .returned (.tuple #[.string t, .bool false]) ∧ w = w' := by
  have HB : Hid (dotB t = false) := hb
  clear hb
  have hs2 := hs
  unfold maxLen at hs
  have h32 : Calls Try.prog 32 #[.string t, .string ⟨#[46]⟩] w fun e w' => e = .returned (.tuple #[.string t, .bool false]) ∧ w = w' := by
    go_enter Try.func32, Try.ntmps32
    go_wp2_with (go_at_call 34; refine (has_run t _ hs2 HB).mono ?_; rintro e w' ⟨rfl, rfl⟩)
    go_ret2
    exact ⟨rfl, rfl⟩
  go_enter Try.func29, Try.ntmps29
  go_wp2_with (go_at_call 32; refine h32.mono ?_; rintro e w' ⟨rfl, rfl⟩)
  go_ret2
  exact ⟨rfl, rfl⟩

/-- WHAT isToken ANSWERS. -/
def tokB (l : List UInt8) : Bool :=
  decide (56 ≤ l.length) && hexB (l.take 56) && (match l.drop 56 with | [] => true | c :: r => c == 46 && decide (r.length ≤ 64) && hexB r)

theorem tok_short {l : List UInt8} (h : l.length < 56) : tokB l = false := by
  have : decide (56 ≤ l.length) = false := by simp; omega
  simp [tokB, this]
theorem tok_bad {l : List UInt8} (h : hexB (l.take 56) = false) : tokB l = false := by simp [tokB, h]
theorem tok_dot {l : List UInt8} (hl : 56 ≤ l.length) (h : hexB (l.take 56) = true) {r : List UInt8} (hd : l.drop 56 = 46 :: r) : tokB l = (decide (r.length ≤ 64) && hexB r) := by
  simp [tokB, h, hd, hl]
theorem tok_plain {l : List UInt8} (hl : 56 ≤ l.length) (h : hexB (l.take 56) = true) (hd : (l.drop 56).head? ≠ some 46) : tokB l = (l.drop 56).isEmpty := by
  unfold tokB
  cases hq : l.drop 56 with
  | nil => simp [hl, h]
  | cons c r =>
    rw [hq] at hd
    have : c ≠ 46 := fun e => hd (by simp [e])
    simp [this]

set_option maxHeartbeats 1000000 in
theorem tok_run (s : ByteArray) (w : World) (hs : s.size ≤ maxLen) :
    Calls Try.prog 24 #[.string s] w fun e w' => e = .returned (.bool (tokB s.data.toList)) ∧ w = w' := by
  obtain ⟨b, hb⟩ : ∃ b, tokB s.data.toList = b := ⟨_, rfl⟩
  rw [hb]
  have HB : Hid (tokB s.data.toList = b) := hb
  clear hb
  have hs2 := hs
  unfold maxLen at hs
  by_cases h1 : (s.size : Int) < 56
  · go_enter Try.func24, Try.ntmps24
    go_wp2
    go_ret
    exact ⟨ret_bool (by rw [← HB.out, tok_short (by rw [size_len]; omega)]), rfl⟩
  have hsz : (s.extract 0 56).size ≤ maxLen := by rw [ByteArray.size_extract]; omega
  have e56 : (s.extract 0 56).data.toList = s.data.toList.take 56 := by rw [Lib.extract_data]; simp
  by_cases h2 : hexB (s.data.toList.take 56) = true
  · have H2 : Hid (hexB (s.extract 0 56).data.toList = true) := by rw [e56]; exact h2
    have H2' : Hid (hexB (s.data.toList.take 56) = true) := h2
    have et : (s.extract 56 s.size).data.toList = s.data.toList.drop 56 := Lib.extract_to_end s 56
    have hst : (s.extract 56 s.size).size ≤ maxLen := by rw [ByteArray.size_extract]; omega
    have hl56 : 56 ≤ s.data.toList.length := by rw [size_len]; omega
    have HE : Hid ((s.extract 56 s.size).data.toList = s.data.toList.drop 56) := et
    clear h2 e56 et
    cases hd : dotB (s.extract 56 s.size)
    · have hne : (s.data.toList.drop 56).head? ≠ some 46 := by
        rw [← HE.out]
        intro e
        unfold dotB at hd
        rw [e] at hd
        simp at hd
      have HP : Hid (tokB s.data.toList = (s.data.toList.drop 56).isEmpty) := tok_plain hl56 H2'.out hne
      have HD : Hid (dotB (s.extract 56 s.size) = false) := hd
      clear hd hne hl56
      go_enter Try.func24, Try.ntmps24
      go_wp2_with (first | (go_at_call 21; refine (lower_any _ _ hsz H2).mono ?_; rintro e w' ⟨rfl, rfl⟩) | (go_at_call 29; refine (cut_no _ _ hst HD.out).mono ?_; rintro e w' ⟨rfl, rfl⟩))
      go_ret
      exact ⟨ret_bool (by rw [← HB.out, HP.out, ByteArray.toList_eq, HE.out]), rfl⟩
    · have h57 := dot_size hd
      obtain ⟨r, hr⟩ : ∃ r, s.data.toList.drop 56 = 46 :: r := by
        unfold dotB at hd
        rw [HE.out] at hd
        cases hq : s.data.toList.drop 56 with
        | nil => rw [hq] at hd; simp at hd
        | cons c r => rw [hq] at hd; simp at hd; exact ⟨r, by rw [hd]⟩
      have HP : Hid (tokB s.data.toList = (decide (r.length ≤ 64) && hexB r)) := tok_dot hl56 H2'.out hr
      obtain ⟨t, ht⟩ : ∃ t, t = (s.extract 56 s.size).extract 1 (s.extract 56 s.size).size := ⟨_, rfl⟩
      have htl : t.data.toList = r := by rw [ht, Lib.extract_to_end, HE.out, hr]; rfl
      have htm : t.size ≤ maxLen := by rw [ht, ByteArray.size_extract]; omega
      have HT : Hid (r.length = t.size) := by rw [← htl]; exact size_len t
      have hcut := cut_yes (s.extract 56 s.size) w hst hd
      rw [← ht] at hcut
      have HD : Hid (t.data.toList = r) := htl
      clear hd hl56 hr ht htl h57
      by_cases h64 : (t.size : Int) ≤ 64
      · obtain ⟨c, hc⟩ : ∃ c, hexB t.data.toList = c := ⟨_, rfl⟩
        have HC : Hid (hexB t.data.toList = c) := hc
        clear hc
        go_enter Try.func24, Try.ntmps24
        go_wp2_with fail
        refine (lower_any _ _ hsz H2).mono ?_
        rintro e w' ⟨rfl, rfl⟩
        go_wp2_with fail
        refine hcut.mono ?_
        rintro e w' ⟨rfl, rfl⟩
        go_wp2_with fail
        refine (lower_any _ _ htm HC).mono ?_
        rintro e w' ⟨rfl, rfl⟩
        go_wp2
        go_ret
        refine ⟨ret_bool ?_, rfl⟩
        rw [← HB.out, HP.out, ← HC.out, HD.out, decide_eq_true (by rw [HT.out]; omega)]
        rfl
      · go_enter Try.func24, Try.ntmps24
        go_wp2_with fail
        refine (lower_any _ _ hsz H2).mono ?_
        rintro e w' ⟨rfl, rfl⟩
        go_wp2_with fail
        refine hcut.mono ?_
        rintro e w' ⟨rfl, rfl⟩
        go_wp2
        go_ret
        refine ⟨ret_bool ?_, rfl⟩
        rw [← HB.out, HP.out, decide_eq_false (by rw [HT.out]; omega)]
        rfl
  · have h2' : hexB (s.data.toList.take 56) = false := by simpa using h2
    have H2 : Hid (hexB (s.extract 0 56).data.toList = false) := by rw [e56]; exact h2'
    have HT : Hid (tokB s.data.toList = false) := tok_bad h2'
    clear h2 h2' e56
    go_enter Try.func24, Try.ntmps24
    go_wp2_with fail
    refine (lower_any _ _ hsz H2).mono ?_
    rintro e w' ⟨rfl, rfl⟩
    go_wp2
    go_ret
    exact ⟨ret_bool (by rw [← HB.out, HT.out]), rfl⟩

set_option maxHeartbeats 400000 in
/-- 'input.ZZisToken(s)'. -/
theorem token_any (s : ByteArray) (w : World) (hs : s.size ≤ maxLen) {b : Bool} (hb : Hid (tokB s.data.toList = b)) :
    Calls Try.prog 12 #[.string s] w fun e w' => e = .returned (.bool b) ∧ w = w' := by
  have h24 := tok_run s w hs
  rw [hb.out] at h24
  go_enter Try.func12, Try.ntmps12
  go_wp2_with fail
  refine h24.mono ?_
  rintro e w' ⟨rfl, rfl⟩
  go_wp2
  go_ret
  exact ⟨rfl, rfl⟩

end Go.Proofs.Qxb6603750a
