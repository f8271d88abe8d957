/-
  THE CASE TABLE's OWN READER (zzNibble, zzDecodeLenient, zzSameText): the walks; and the plain law: canonical hex is lower-case hex; the case table is isToken.
-/
import Derived.Test.Qxb6603750aParts
import Derived.Deep.RegionHeld3
import Derived.Deep.QuietTactic
import Derived.BigQuiet
namespace Go.Proofs.Qxb6603750a
open Go.RowKit

def nibI (c : Int) : Int := if c ≤ 57 then (c - 48) % 16 else (c - 87) % 16
theorem nibI_bd (c : Int) : 0 ≤ nibI c ∧ nibI c ≤ 15 := by unfold nibI; split <;> omega

set_option maxHeartbeats 400000 in
theorem nib_any (c : UInt8) (w : World) : Calls Try.prog 28 #[.int .u8 (c.toNat : Int)] w fun e w' => e = .returned (.int .u8 (nibI c.toNat)) ∧ w = w' := by
  have hc : (c.toNat : Int) ≤ 255 := by have := c.toNat_lt; omega
  have hc0 : (0 : Int) ≤ (c.toNat : Int) := by omega
  unfold nibI
  by_cases h : (c.toNat : Int) ≤ 57
  · rw [if_pos h]
    go_enter Try.func28, Try.ntmps28
    go_wp2
    go_ret
    exact ⟨ret_u8 (by omega), rfl⟩
  · rw [if_neg h]
    go_enter Try.func28, Try.ntmps28
    go_wp2
    go_ret
    exact ⟨ret_u8 (by omega), rfl⟩

/-- The bytes that the text's digits say, two a byte; a last odd one is dropped. -/
def decI : List UInt8 → List Int
  | a :: b :: r => (nibI a.toNat * 16 + nibI b.toNat) :: decI r
  | _ => []

theorem decI_length : ∀ l : List UInt8, (decI l).length = l.length / 2
  | [] => rfl
  | [a] => by simp [decI]
  | a :: b :: r => by simp [decI, decI_length r]; omega

theorem decI_get : ∀ (l : List UInt8) (j : Nat) (a b : UInt8), l[2 * j]? = some a → l[2 * j + 1]? = some b → (decI l)[j]? = some (nibI a.toNat * 16 + nibI b.toNat)
  | [], j, a, b, h, _ => by simp at h
  | [x], j, a, b, _, h => by simp at h
  | x :: y :: r, 0, a, b, h1, h2 => by simp at h1 h2; subst h1; subst h2; rfl
  | x :: y :: r, j + 1, a, b, h1, h2 => by
    rw [show 2 * (j + 1) = 2 * j + 1 + 1 by omega] at h1 h2
    simp only [List.getElem?_cons_succ] at h1 h2
    exact decI_get r j a b h1 h2

theorem decI_bd : ∀ (l : List UInt8) (x : Int), x ∈ decI l → 0 ≤ x ∧ x ≤ 255
  | [], x, h => by simp [decI] at h
  | [a], x, h => by simp [decI] at h
  | a :: b :: r, x, h => by
    simp only [decI, List.mem_cons] at h
    rcases h with rfl | h
    · have := nibI_bd a.toNat
      have := nibI_bd b.toNat
      omega
    · exact decI_bd r x h

/-- What the decoding has come to. -/
def Deced (w : World) (n : Nat) (xs : List Int) (k : Nat) (wr : World) : Prop :=
  ∃ cur, wr.ownsRow 0 5 1 (.slice (some ⟨w.heap.size, 0, none⟩) n n) n cur ∧ (∀ j, j < k → cur[j]? = xs[j]?.map (Value.int .u8)) ∧ Stp w wr

theorem Stp.drewN {w wr : World} (s : Stp w wr) (n : Nat) : Stp w (wr.drewN n) := ⟨s.os, s.tape, s.output, s.size, s.block⟩

theorem Deced.drewN {w wr : World} {n : Nat} {xs : List Int} {k : Nat} (c : Deced w n xs k wr) (m : Nat) : Deced w n xs k (wr.drewN m) := by
  obtain ⟨cur, own, hcur, s⟩ := c
  exact ⟨cur, own, hcur, s.drewN m⟩
theorem Deced.cell {w wr : World} {n : Nat} {xs : List Int} {k j : Nat} (c : Deced w n xs k wr) (hj : j < n) : ∃ u, wr.cell? ⟨w.heap.size, j, none⟩ = some u := by
  obtain ⟨cur, own, hcur, s⟩ := c
  have hl : cur.length = n := by simpa using own.1
  exact ⟨_, by rw [own.cellAt j (by omega)]; exact List.getElem?_eq_getElem (by omega)⟩
theorem Deced.fr {w wr : World} {n : Nat} {xs : List Int} {k : Nat} (c : Deced w n xs k wr) (j : Nat) : wr.frozen? ⟨w.heap.size, j, none⟩ = false := by
  obtain ⟨cur, own, hcur, s⟩ := c
  exact own.frozenAt j
theorem Deced.step {w wr : World} {n : Nat} {xs : List Int} {k : Nat} {x : Int} (c : Deced w n xs k wr) (hk : k < n) (hx : xs[k]? = some x) :
    Deced w n xs (k + 1) (wr.setCell ⟨w.heap.size, k, none⟩ (.int .u8 x)) := by
  obtain ⟨cur, own, hcur, s⟩ := c
  have hl : cur.length = n := by simpa using own.1
  refine ⟨_, (own.stored k (.int .u8 x)).1, fun j hj => ?_, s.setNew (a := ⟨w.heap.size, k, none⟩) (Nat.le_refl _) _⟩
  by_cases c1 : j = k
  · subst c1
    rw [List.getElem?_set_self (by omega), hx]
    rfl
  · rw [List.getElem?_set_ne (by omega)]
    exact hcur j (by omega)

theorem or_nib0 : ∀ a : Nat, a < 16 → ∀ b : Nat, b < 16 → bits .or .u8 (IntKind.u8.wrap ((a : Int) * 16)) (b : Int) = (a : Int) * 16 + (b : Int) := by decide +kernel

theorem or_nib {a b : Int} (ha : 0 ≤ a ∧ a ≤ 15) (hb : 0 ≤ b ∧ b ≤ 15) : bits .or .u8 (IntKind.u8.wrap (a * 16)) b = a * 16 + b := by
  obtain ⟨m, rfl⟩ : ∃ m : Nat, a = (m : Int) := ⟨a.toNat, by omega⟩
  obtain ⟨n, rfl⟩ : ∃ n : Nat, b = (n : Int) := ⟨b.toNat, by omega⟩
  exact or_nib0 m (by omega) n (by omega)

theorem index_at (s : ByteArray) (i : Nat) (h : i < s.size) (I : Int) (hI : I = (i : Int)) (w : World) : (Instr.index 9 (.string s) (.int .i64 I)).run Try.prog w = .ok (.int .u8 ((s[i]).toNat : Int)) w := by
  subst hI
  have h' : (i : Int) < (s.size : Int) := by omega
  go_simp

set_option maxRecDepth 100000 in
set_option maxHeartbeats 1000000 in
theorem dec_run (s : ByteArray) (w : World) (hs : s.size ≤ 1048576) :
    Calls Try.prog 23 #[.string s] w fun e w' => e = .returned (.slice (some ⟨w.heap.size, 0, none⟩) (s.size / 2) (s.size / 2)) ∧ Deced w (s.size / 2) (decI s.data.toList) (s.size / 2) w' := by
  obtain ⟨i0, hi, hz0, hz1, hz2⟩ := info_parts Try.info5
  obtain ⟨n, hn⟩ : ∃ n, n = s.size / 2 := ⟨_, rfl⟩
  obtain ⟨w1, hmk0, own1, gr1⟩ := run_make_full (P := Try.prog) w 0 24 5 i0 (.int .u8 0) 1 Try.underlying24 hi hz0 hz1 .i64 .i64 n (by rw [hz2]; omega) (by unfold maxLen; omega) (Nat.zero_le _)
  have hn2 : (n : Int) = (s.size : Int) / 2 := by omega
  rw [hn2] at hmk0
  rw [← hn]
  have st : Deced w n (decI s.data.toList) 0 w1 := ⟨_, own1, fun j hj => by omega, (Stp.refl w).grown gr1 (fun r h => by cases h)⟩
  have HN : Hid (n = s.size / 2) := hn
  clear own1 gr1 hi hz0 hz1 hz2 hn hn2
  go_enter Try.func23, Try.ntmps23
  go_wp2
  go_loopg [4] n (fun k s4 wr => ∃ j : Nat, j ≤ n ∧ k = n - j ∧ s4 = .int .i64 (j : Int) ∧ Deced w n (decI s.data.toList) j wr)
  case atStart => exact ⟨0, Nat.zero_le _, rfl, rfl, st⟩
  case round =>
    obtain ⟨j, hj, hk, rfl, c⟩ := hrel
    have HK : Hid (gk = n - j) := hk
    clear hk st
    by_cases hlt : j < n
    · have h2a : 2 * j < s.size := by have := HN.out; omega
      have h2b : 2 * j + 1 < s.size := by have := HN.out; omega
      have i2a : 2 * (j : Int) < (s.size : Int) := by omega
      have i2b : 2 * (j : Int) + 1 < (s.size : Int) := by omega
      obtain ⟨u, hu⟩ := c.cell hlt
      have hf := c.fr j
      have hxa := index_at s (2 * j) h2a (2 * (j : Int)) (by omega)
      have hxb := index_at s (2 * j + 1) h2b (2 * (j : Int) + 1) (by omega)
      obtain ⟨ca, hca⟩ : ∃ ca, s[2 * j] = ca := ⟨_, rfl⟩
      obtain ⟨cb, hcb⟩ : ∃ cb, s[2 * j + 1] = cb := ⟨_, rfl⟩
      rw [hca] at hxa
      rw [hcb] at hxb
      have hor := or_nib (nibI_bd ca.toNat) (nibI_bd cb.toNat)
      have cs := c.step hlt (decI_get s.data.toList j ca cb (by rw [get_len s (2 * j) h2a, hca]) (by rw [get_len s (2 * j + 1) h2b, hcb]))
      clear hca hcb
      have hw1 : IntKind.i64.wrap (2 * (j : Int)) = 2 * (j : Int) := wrap_small _ (by omega) (by omega)
      have hw2 : IntKind.i64.wrap (2 * (j : Int) + 1) = 2 * (j : Int) + 1 := wrap_small _ (by omega) (by omega)
      have d1 : (0 : Int) ≤ 2 * (j : Int) := by omega
      have d2 : (0 : Int) ≤ 2 * (j : Int) + 1 := by omega
      go_wp2
      go_region_held3 (fun _ => True) (trivial) (first | (go_at_call 28; refine (nib_any _ _).mono ?_; rintro e w' ⟨rfl, rfl⟩))
      all_goals
        go_wp2
        go_roundg (n - (j + 1))
        case measure => have := HK.out; omega
        case rel => exact ⟨j + 1, by omega, rfl, by go_num, cs.drewN 1⟩
    · have hjl : j = n := by omega
      subst hjl
      go_wp2
      go_ret
      exact ⟨rfl, c⟩

/-- 'zzDecodeLenient(s)'. -/
theorem dec_any (s : ByteArray) (w : World) (hs : s.size ≤ 1048576) :
    Calls Try.prog 23 #[.string s] w fun e w' => e = .returned (.slice (some ⟨w.heap.size, 0, none⟩) (s.size / 2) (s.size / 2)) ∧ BArr w' w.heap.size (.slice (some ⟨w.heap.size, 0, none⟩) (s.size / 2) (s.size / 2)) (decI s.data.toList) ∧ Stp w w' := by
  refine (dec_run s w hs).mono ?_
  rintro e w' ⟨rfl, cur, own, hcur, st⟩
  have hl : (decI s.data.toList).length = s.size / 2 := by rw [decI_length, size_len]
  refine ⟨rfl, ⟨fun i w'' h => bidx_row _ _ _ i w'' (by omega), fun i x hx => ?_, fun x hx => decI_bd _ x hx⟩, st⟩
  have hi : i < s.size / 2 := by have := (List.getElem?_eq_some_iff.1 hx).1; omega
  rw [own.cellAt i (by omega), hcur i hi, hx]
  rfl

def sameB (xs : List Int) (l : List UInt8) : Bool := xs.map ub == l

theorem same_len {xs : List Int} {l : List UInt8} (h : xs.length ≠ l.length) : sameB xs l = false := by
  unfold sameB
  rw [beq_eq_false_iff_ne]
  intro e
  exact h (by rw [← e, List.length_map])

theorem same_at {xs : List Int} {l : List UInt8} {j : Nat} {x : Int} {c : UInt8} (hx : xs[j]? = some x) (hc : l[j]? = some c) (hb : 0 ≤ x ∧ x ≤ 255) (hne : x ≠ (c.toNat : Int)) : sameB xs l = false := by
  unfold sameB
  rw [beq_eq_false_iff_ne]
  intro e
  have h1 : (xs.map ub)[j]? = some (ub x) := by rw [List.getElem?_map, hx]; rfl
  rw [e, hc] at h1
  have h2 := Option.some.inj h1
  apply hne
  rw [h2, toNat_ub hb.1 hb.2]

theorem same_all {xs : List Int} {l : List UInt8} (hl : xs.length = l.length) (h : ∀ (j : Nat) (x : Int) (c : UInt8), xs[j]? = some x → l[j]? = some c → x = (c.toNat : Int)) : sameB xs l = true := by
  unfold sameB
  rw [beq_iff_eq]
  apply List.ext_getElem?
  intro j
  by_cases hj : j < xs.length
  · have e1 : xs[j]? = some xs[j] := List.getElem?_eq_getElem hj
    have e2 : l[j]? = some l[j] := List.getElem?_eq_getElem (by omega)
    have := h j _ _ e1 e2
    rw [List.getElem?_map, e1, e2]
    simp only [Option.map_some, Option.some.injEq]
    unfold ub
    rw [this]
    simp
  · rw [List.getElem?_eq_none (by simp; omega), List.getElem?_eq_none (by omega)]

set_option maxHeartbeats 1000000 in
theorem same_run (b n cap : Nat) (xs : List Int) (s : ByteArray) (w : World) (hs : s.size ≤ 1048576) (hlen : xs.length = n) (hb : ∀ x ∈ xs, 0 ≤ x ∧ x ≤ 255) (hc : ∀ (i : Nat) (x : Int), xs[i]? = some x → w.cell? ⟨b, i, none⟩ = some (.int .u8 x)) :
    Calls Try.prog 22 #[.slice (some ⟨b, 0, none⟩) n cap, .string s] w fun e w' => e = .returned (.bool (sameB xs s.data.toList)) ∧ ∃ nq, w' = w.drewN nq := by
  obtain ⟨r, hr⟩ : ∃ r, sameB xs s.data.toList = r := ⟨_, rfl⟩
  rw [hr]
  have HR : Hid (sameB xs s.data.toList = r) := hr
  have HL : Hid (xs.length = n) := hlen
  clear hr hlen
  by_cases h1 : n = s.size
  · have h1' : ((n : Int) != (s.size : Int)) = false := by simp; omega
    have H1 : Hid (n = s.size) := h1
    clear h1
    go_enter Try.func22, Try.ntmps22
    go_wp2
    go_loopg [5] n (fun k s5 wr => ∃ j nq : Nat, j ≤ n ∧ k = n - j ∧ s5 = .int .i64 (j : Int) ∧ wr = w.drewN nq ∧ Hid (∀ (i : Nat) (x : Int) (c : UInt8), i < j → xs[i]? = some x → s.data.toList[i]? = some c → x = (c.toNat : Int)))
    case atStart => exact ⟨0, 0, Nat.zero_le _, rfl, rfl, rfl, fun i x c hi => by omega⟩
    case round =>
      obtain ⟨j, nq0, hj, hk, rfl, rfl, HA⟩ := hrel
      have HK : Hid (gk = n - j) := hk
      clear hk
      by_cases hlt : j < n
      · obtain ⟨x, hx⟩ : ∃ x, xs[j]? = some x := ⟨_, List.getElem?_eq_getElem (by rw [HL.out]; exact hlt)⟩
        have hcx := hc j x hx
        have hjs : j < s.size := by rw [← H1.out]; exact hlt
        obtain ⟨c, hcc⟩ : ∃ c, s[j] = c := ⟨_, rfl⟩
        have hgc := get_len s j hjs
        rw [hcc] at hgc
        have hxi := index_at s j hjs (j : Int) rfl
        rw [hcc] at hxi
        have HX : Hid (xs[j]? = some x) := hx
        have HC : Hid (s.data.toList[j]? = some c) := hgc
        have hbx := hb x (List.mem_of_getElem? hx)
        clear hx hgc hcc
        by_cases he : x = (c.toNat : Int)
        · have he' : (x != (c.toNat : Int)) = false := by simp [he]
          have HE : Hid (x = (c.toNat : Int)) := he
          clear he
          go_wp2
          go_quiet (fail)
          go_wp2
          go_roundg (n - (j + 1))
          case measure => have := HK.out; omega
          case rel =>
            refine ⟨j + 1, nq0 + nq, by omega, rfl, by go_num, rfl, fun i x' c' hi h1 h2 => ?_⟩
            by_cases e : i = j
            · subst e
              rw [HX.out] at h1
              rw [HC.out] at h2
              rw [← Option.some.inj h1, ← Option.some.inj h2]
              exact HE.out
            · exact HA.out i x' c' (by omega) h1 h2
        · have he' : (x != (c.toNat : Int)) = true := by simp [he]
          have HE : Hid (x ≠ (c.toNat : Int)) := he
          clear he
          go_wp2
          go_quiet (fail)
          go_wp2
          go_ret
          exact ⟨ret_bool (by rw [← HR.out, same_at HX.out HC.out hbx HE.out]), nq0 + nq, by rw [World.drewN_drewN]⟩
      · go_wp2
        go_ret
        refine ⟨ret_bool ?_, _, rfl⟩
        rw [← HR.out]
        refine (same_all (by rw [HL.out, H1.out, size_len]) (fun i x c h1 h2 => HA.out i x c ?_ h1 h2)).symm
        have := (List.getElem?_eq_some_iff.1 h1).1
        rw [HL.out] at this
        omega
  · have h1' : ((n : Int) != (s.size : Int)) = true := by simp; omega
    have H1 : Hid (n ≠ s.size) := h1
    clear h1
    go_enter Try.func22, Try.ntmps22
    go_wp2
    go_ret
    exact ⟨ret_bool (by rw [← HR.out, same_len (by rw [HL.out, size_len]; exact H1.out)]), 0, rfl⟩


/-! ### the plain law: the text is the canonical one just if it is lower-case hex -/
def canonB (l : List UInt8) : Bool := !l.isEmpty && sameB (encI (decI l)) l

theorem nib_dig0 : ∀ n : Nat, n < 256 → (ub (digI (nibI (n : Int))) == UInt8.ofNat n) = hexc (UInt8.ofNat n) := by decide +kernel

theorem nib_dig (c : UInt8) : (ub (digI (nibI (c.toNat : Int))) == c) = hexc c := by
  have := nib_dig0 c.toNat c.toNat_lt
  simpa using this

theorem enc_pair {a b : Int} (hb : 0 ≤ b ∧ b ≤ 15) (r : List Int) : encI ((a * 16 + b) :: r) = digI a :: digI b :: encI r := by
  have h1 : (a * 16 + b) / 16 = a := by omega
  have h2 : (a * 16 + b) % 16 = b := by omega
  simp only [encI, h1, h2]

theorem same_hex : ∀ l : List UInt8, sameB (encI (decI l)) l = (l.length % 2 == 0 && l.all hexc)
  | [] => rfl
  | [a] => by simp [decI, encI, sameB]
  | a :: b :: r => by
    have ih := same_hex r
    unfold sameB at ih ⊢
    simp only [decI]
    rw [enc_pair (nibI_bd _)]
    simp only [List.map_cons, List.cons_beq_cons, nib_dig, ih, List.all_cons, List.length_cons]
    have e : ((r.length + 1 + 1) % 2 == 0) = (r.length % 2 == 0) := by
      rw [show (r.length + 1 + 1) % 2 = r.length % 2 by omega]
    rw [e]
    cases hexc a <;> cases hexc b <;> cases (r.length % 2 == 0) <;> cases r.all hexc <;> rfl

theorem canon_hex (l : List UInt8) : canonB l = hexB l := by
  unfold canonB hexB
  rw [same_hex, Bool.and_assoc]

/-- WHAT THE CASE TABLE ANSWERS. -/
def modB (l : List UInt8) : Bool :=
  if l.length = 56 then canonB l else if l.length < 58 ∨ 121 < l.length then false else if l[56]? = some 46 then canonB (l.take 56) && canonB (l.drop 57) else false

theorem mod_tok (l : List UInt8) : modB l = tokB l := by
  unfold modB
  split
  · rename_i h
    have h1 : l.take 56 = l := List.take_of_length_le (by omega)
    have h2 : l.drop 56 = [] := List.drop_of_length_le (by omega)
    unfold tokB
    rw [h1, h2, canon_hex, h]
    simp
  · rename_i h
    split
    · rename_i h2
      by_cases h3 : l.length < 56
      · rw [tok_short h3]
      · by_cases h4 : hexB (l.take 56) = true
        · -- longer than 56: 57, or more than 121
          obtain ⟨c, r, hd⟩ : ∃ c r, l.drop 56 = c :: r := by
            cases hq : l.drop 56 with
            | nil => have := congrArg List.length hq; simp at this; omega
            | cons c r => exact ⟨c, r, rfl⟩
          have hl : r.length + 57 = l.length := by have := congrArg List.length hd; simp at this; omega
          unfold tokB
          rw [hd]
          simp only
          rcases h2 with h2 | h2
          · have hr : r = [] := List.eq_nil_of_length_eq_zero (by omega)
            rw [hr]
            simp [hexB]
          · rw [decide_eq_false (show ¬ r.length ≤ 64 by omega)]
            simp
        · rw [tok_bad (by simpa using h4)]
    · rename_i h2
      obtain ⟨c, r, hd⟩ : ∃ c r, l.drop 56 = c :: r := by
        cases hq : l.drop 56 with
        | nil => have := congrArg List.length hq; simp at this; omega
        | cons c r => exact ⟨c, r, rfl⟩
      have hl : r.length + 57 = l.length := by have := congrArg List.length hd; simp at this; omega
      have hc : l[56]? = some c := by
        have : (l.drop 56)[0]? = some c := by rw [hd]; rfl
        simpa using this
      have hr : l.drop 57 = r := by
        have : (l.drop 56).drop 1 = r := by rw [hd]; rfl
        simpa [List.drop_drop] using this
      unfold tokB
      rw [hd, hc, hr, canon_hex, canon_hex, decide_eq_true (show 56 ≤ l.length by omega)]
      simp only
      rw [decide_eq_true (show r.length ≤ 64 by omega)]
      by_cases hcc : c = 46
      · subst hcc; simp
      · simp [hcc]

end Go.Proofs.Qxb6603750a
