/-
  THE WALK OF THE LAW FnTokenCaseTable.
-/
import Derived.Test.Qxb6603750aDec
namespace Go.Proofs.Qxb6603750a
open Go.RowKit

theorem encI_bd : ∀ (xs : List Int), (∀ x ∈ xs, 0 ≤ x ∧ x ≤ 255) → ∀ y ∈ encI xs, 0 ≤ y ∧ y ≤ 255
  | [], _, y, h => by simp [encI] at h
  | x :: r, hb, y, h => by
    obtain ⟨h0, h1⟩ := hb x (by simp)
    simp only [encI, List.mem_cons] at h
    rcases h with rfl | rfl | h
    · exact digI_bd (by omega) (by omega)
    · exact digI_bd (by omega) (by omega)
    · exact encI_bd r (fun z hz => hb z (by simp [hz])) y h

set_option maxHeartbeats 1000000 in
theorem canon_run (s : ByteArray) (w : World) (hs : s.size ≤ 1048576) {b : Bool} (hb : Hid (hexB s.data.toList = b)) :
    Calls Try.prog 10 #[.string s] w fun e w' => e = .returned (.bool b) ∧ Stp w w' := by
  by_cases h0 : (0 : Int) < (s.size : Int)
  · obtain ⟨n, hn⟩ : ∃ n, n = s.size / 2 := ⟨_, rfl⟩
    have CD := dec_any s w hs
    rw [← hn] at CD
    have HL : Hid ((decI s.data.toList).length = n) := by show _ = _; rw [decI_length, size_len, hn]
    have hn2 : n ≤ 1048576 := by omega
    clear hn
    go_enter Try.func10, Try.ntmps10
    go_wp2_with fail
    refine CD.mono ?_
    rintro e wA ⟨rfl, arr, sA⟩
    go_wp2_with fail
    refine (enc_any hn2 HL.out arr).mono ?_
    rintro e wB ⟨rfl, row, sB⟩
    have hl2 : (encI (decI s.data.toList)).length = 2 * n := by rw [encI_length, HL.out]
    go_wp2_with fail
    refine (same_run wA.heap.size (2 * n) (2 * n) (encI (decI s.data.toList)) s wB hs hl2 (encI_bd _ (fun x hx => decI_bd _ x hx)) (fun i x hx => ?_)).mono ?_
    · rw [row.cellAt i (by have := (List.getElem?_eq_some_iff.1 hx).1; omega), List.getElem?_map, hx]
      rfl
    · rintro e w' ⟨rfl, nq, rfl⟩
      have hc : sameB (encI (decI s.data.toList)) s.data.toList = b := by
        rw [← hb.out, ← canon_hex]
        unfold canonB
        have : s.data.toList.isEmpty = false := by
          have := size_len s
          cases hq : s.data.toList with
          | nil => rw [hq] at this; simp at this; omega
          | cons => rfl
        rw [this]
        rfl
      rw [hc]
      clear hl2 row arr hc
      go_wp2
      go_ret
      exact ⟨rfl, (sA.trans sB).drewN nq⟩
  · have hb' : b = false := by
      rw [← hb.out]
      have := size_len s
      have : s.data.toList = [] := List.eq_nil_of_length_eq_zero (by omega)
      simp [hexB, this]
    subst hb'
    go_enter Try.func10, Try.ntmps10
    go_wp2
    go_ret
    exact ⟨rfl, Stp.refl _⟩

set_option maxHeartbeats 1000000 in
theorem model_run (s : ByteArray) (w : World) (hs : s.size ≤ 1048576) {b : Bool} (hb : Hid (modB s.data.toList = b)) :
    Calls Try.prog 13 #[.string s] w fun e w' => e = .returned (.bool b) ∧ Stp w w' := by
  have hl := size_len s
  by_cases h1 : (s.size : Int) = 56
  · have h1' : ((s.size : Int) == 56) = true := by simp [h1]
    have HB : Hid (hexB s.data.toList = b) := by
      show _ = _
      rw [← hb.out, modB, if_pos (by omega), canon_hex]
    clear h1 hl
    go_enter Try.func13, Try.ntmps13
    go_wp2_with (go_at_call 10; refine (canon_run s _ hs HB).mono ?_; rintro e w' ⟨rfl, s'⟩)
    go_ret
    exact ⟨rfl, s'⟩
  have h1' : ((s.size : Int) == 56) = false := by simp [h1]
  by_cases h2 : (s.size : Int) < 58
  · have hb' : b = false := by rw [← hb.out, modB, if_neg (by omega), if_pos (by omega)]
    subst hb'
    clear h1 hl
    go_enter Try.func13, Try.ntmps13
    go_wp2
    go_ret
    exact ⟨rfl, Stp.refl _⟩
  by_cases h3 : (121 : Int) < (s.size : Int)
  · have hb' : b = false := by rw [← hb.out, modB, if_neg (by omega), if_pos (by omega)]
    subst hb'
    clear h1 hl
    go_enter Try.func13, Try.ntmps13
    go_wp2
    go_ret
    exact ⟨rfl, Stp.refl _⟩
  have h56 : 56 < s.size := by omega
  obtain ⟨c, hc⟩ : ∃ c, s[56] = c := ⟨_, rfl⟩
  have hg := get_len s 56 h56
  rw [hc] at hg
  have hix := fun w' => index_at s 56 h56 56 rfl w'
  rw [hc] at hix
  clear hc
  by_cases h4 : c = 46
  · subst h4
    have hm : b = (hexB (s.data.toList.take 56) && hexB (s.data.toList.drop 57)) := by
      rw [← hb.out, modB, if_neg (by omega), if_neg (by omega), if_pos hg, canon_hex, canon_hex]
    have e1 : (s.extract 0 56).data.toList = s.data.toList.take 56 := by rw [Lib.extract_data]; simp
    have e2 : (s.extract 57 s.size).data.toList = s.data.toList.drop 57 := Lib.extract_to_end s 57
    obtain ⟨b1, hb1⟩ : ∃ b1, hexB (s.extract 0 56).data.toList = b1 := ⟨_, rfl⟩
    obtain ⟨b2, hb2⟩ : ∃ b2, hexB (s.extract 57 s.size).data.toList = b2 := ⟨_, rfl⟩
    rw [← e1, ← e2, hb1, hb2] at hm
    have H1 : Hid (hexB (s.extract 0 56).data.toList = b1) := hb1
    have H2 : Hid (hexB (s.extract 57 s.size).data.toList = b2) := hb2
    have z1 : (s.extract 0 56).size ≤ 1048576 := by rw [ByteArray.size_extract]; omega
    have z2 : (s.extract 57 s.size).size ≤ 1048576 := by rw [ByteArray.size_extract]; omega
    clear hb hb1 hb2 e1 e2 hg h1 hl
    subst hm
    cases b1
    · go_enter Try.func13, Try.ntmps13
      go_wp2_with fail
      refine (canon_run _ _ z1 H1).mono ?_
      rintro e w' ⟨rfl, s'⟩
      go_wp2
      go_ret
      exact ⟨rfl, s'⟩
    · go_enter Try.func13, Try.ntmps13
      go_wp2_with fail
      refine (canon_run _ _ z1 H1).mono ?_
      rintro e w' ⟨rfl, s'⟩
      go_wp2_with fail
      refine (canon_run _ _ z2 H2).mono ?_
      rintro e w'' ⟨rfl, s''⟩
      go_wp2
      go_ret
      exact ⟨rfl, s'.trans s''⟩
  · have hb' : b = false := by
      rw [← hb.out, modB, if_neg (by omega), if_neg (by omega), if_neg (by rw [hg]; simp [h4])]
    subst hb'
    have h4' : ((c.toNat : Int) != 46) = true := by
      simp only [bne_iff_ne, ne_eq]
      intro e
      apply h4
      have : c.toNat = 46 := by omega
      exact UInt8.toNat_inj.1 (by rw [this]; rfl)
    clear h1 hl hg h4
    go_enter Try.func13, Try.ntmps13
    go_wp2
    go_ret
    exact ⟨rfl, Stp.refl _⟩

set_option maxHeartbeats 400000 in
theorem bytes11 (s : ByteArray) (w : World) (h : s.size ≤ 1048576) : Calls Try.prog 11 #[.string s] w fun e w' => e = .returned (.bool true) ∧ w = w' := by
  have h' : ¬ (1048576 : Int) < (s.size : Int) := by omega
  go_enter Try.func11, Try.ntmps11
  go_wp2
  go_ret
  exact ⟨rfl, rfl⟩

set_option maxHeartbeats 400000 in
theorem bytes11_no (s : ByteArray) (w : World) (h : 1048576 < s.size) : Calls Try.prog 11 #[.string s] w fun e w' => e = .returned (.bool false) ∧ w = w' := by
  have h' : (1048576 : Int) < (s.size : Int) := by omega
  go_enter Try.func11, Try.ntmps11
  go_wp2
  go_ret
  exact ⟨rfl, rfl⟩

set_option maxHeartbeats 400000 in
theorem table_walk (s : ByteArray) (hm : s.size ≤ maxLen) (w : World) :
    Calls Try.prog 4 #[.string s] w fun e w' => e = .returned (.bool true) ∧ Below w.heap.size w w' := by
  by_cases h1 : 1048576 < s.size
  · go_enter Try.func4, Try.ntmps4
    go_wp2_with (go_at_call 11; refine (bytes11_no s _ h1).mono ?_; rintro e w' ⟨rfl, rfl⟩)
    go_ret
    exact ⟨rfl, Below.refl _ _⟩
  have h1' : s.size ≤ 1048576 := by omega
  have h2 : ¬ (1048576 : Int) < (s.size : Int) := by omega
  obtain ⟨b, hb⟩ : ∃ b, tokB s.data.toList = b := ⟨_, rfl⟩
  have HT : Hid (tokB s.data.toList = b) := hb
  have HM : Hid (modB s.data.toList = b) := by show _ = _; rw [mod_tok]; exact hb
  clear hb h1
  cases b
  all_goals
    go_enter Try.func4, Try.ntmps4
    go_wp2_with fail
    refine (bytes11 s _ h1').mono ?_
    rintro e w' ⟨rfl, rfl⟩
    go_wp2_with fail
    refine (token_any s _ hm HT).mono ?_
    rintro e w' ⟨rfl, rfl⟩
    go_wp2_with fail
    refine (model_run s _ h1' HM).mono ?_
    rintro e w' ⟨rfl, s'⟩
    go_wp2
    go_ret
    exact ⟨rfl, s'.below⟩

end Go.Proofs.Qxb6603750a
