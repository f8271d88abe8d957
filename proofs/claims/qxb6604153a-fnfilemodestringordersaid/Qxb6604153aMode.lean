/-
  FileMode.String: the walk. It returns the octal digits of the mode, at least six.
-/
import Derived.Test.Qxb6604153aRows
import Derived.WalkKit
import Derived.WalkSpells
import Derived.WalkLawsBesides
import Derived.Deep.LoopGhost
import Derived.OpenShut
import Derived.Laws.BitsAllLaws
import Derived.Laws.BytesString
import Derived.Below
import Derived.Outline
namespace Go.Proofs.Qxb6604153a
open Go.RowKit

/-- w' is w but for new blocks. -/
structure Stp (w w' : World) : Prop where
  os : w'.os = w.os
  tape : w'.tape = w.tape
  output : w'.output = w.output
  size : w.heap.size ≤ w'.heap.size
  block : ∀ i, i < w.heap.size → w'.heap[i]? = w.heap[i]?

theorem Stp.refl (w : World) : Stp w w := ⟨rfl, rfl, rfl, Nat.le_refl _, fun _ _ => rfl⟩
theorem Stp.trans {a b c : World} (h : Stp a b) (k : Stp b c) : Stp a c :=
  ⟨k.os.trans h.os, k.tape.trans h.tape, k.output.trans h.output, Nat.le_trans h.size k.size, fun i hi => by rw [k.block i (Nat.lt_of_lt_of_le hi h.size), h.block i hi]⟩
theorem Stp.below {w w' : World} (h : Stp w w') : Below w.heap.size w w' := ⟨h.os, h.tape, h.output, h.size, h.block⟩
theorem Stp.alloc (w : World) (o : Obj) : Stp w (w.alloc o) := ⟨rfl, rfl, rfl, by simp, fun i hi => Below.heap_alloc w o i hi⟩
/-- A block that was not there may be written. -/
theorem Stp.setNew {w wr : World} (s : Stp w wr) {a : Addr} (h : w.heap.size ≤ a.block) (u : Value) : Stp w (wr.setCell a u) :=
  ⟨s.os, s.tape, s.output, by simp [World.setCell]; exact s.size, fun i hi => by rw [Below.heap_setCell wr a u i (by omega)]; exact s.block i hi⟩

/-- The octal digits' bytes, T of them. -/
def oct (m : Nat) : Nat → List Int
  | 0 => []
  | k + 1 => ((48 + (m / 8 ^ k) % 8 : Nat) : Int) :: oct m k

theorem oct_length (m : Nat) : ∀ T, (oct m T).length = T
  | 0 => rfl
  | k + 1 => by simp [oct, oct_length m k]

theorem oct_get (m : Nat) : ∀ (T j : Nat), j < T → (oct m T)[j]? = some ((48 + (m / 8 ^ (T - 1 - j)) % 8 : Nat) : Int)
  | 0, j, h => by omega
  | k + 1, 0, _ => by simp [oct]
  | k + 1, j + 1, h => by
    simp only [oct, List.getElem?_cons_succ]
    rw [oct_get m k j (by omega), show k + 1 - 1 - (j + 1) = k - 1 - j by omega]

/-- What the digging has come to: the cells from i on hold digits. -/
structure Dug (w : World) (m i : Nat) (wr : World) : Prop where
  there : ∀ j, j < 11 → ∃ u, wr.cell? ⟨w.heap.size, j, none⟩ = some u
  fr : ∀ j, wr.frozen? ⟨w.heap.size, j, none⟩ = false
  dig : ∀ j, i ≤ j → j < 11 → wr.cell? ⟨w.heap.size, j, none⟩ = some (.int .u8 ((48 + (m / 8 ^ (10 - j)) % 8 : Nat) : Int))
  stp : Stp w wr

theorem Dug.step {w wr : World} {m i : Nat} (d : Dug w m i wr) (h0 : 0 < i) (h1 : i ≤ 11) :
    Dug w m (i - 1) (wr.setCell ⟨w.heap.size, i - 1, none⟩ (.int .u8 ((48 + (m / 8 ^ (11 - i)) % 8 : Nat) : Int))) := by
  obtain ⟨u0, hu0⟩ := d.there (i - 1) (by omega)
  have same : (wr.setCell ⟨w.heap.size, i - 1, none⟩ (.int .u8 ((48 + (m / 8 ^ (11 - i)) % 8 : Nat) : Int))).cell? ⟨w.heap.size, i - 1, none⟩ = some (.int .u8 ((48 + (m / 8 ^ (11 - i)) % 8 : Nat) : Int)) := by
    exact World.cell?_setCell_same _ _ _ hu0
  refine ⟨fun j hj => ?_, fun j => by rw [World.frozen?_setCell]; exact d.fr j, fun j hj hj' => ?_, d.stp.setNew (a := ⟨w.heap.size, i - 1, none⟩) (Nat.le_refl _) _⟩
  · by_cases e : j = i - 1
    · subst e; exact ⟨_, same⟩
    · obtain ⟨u, hu⟩ := d.there j hj
      exact ⟨u, by rw [World.cell?_setCell_other _ _ _ _ (by simp only [ne_eq, Addr.mk.injEq, not_and]; intros; omega)]; exact hu⟩
  · by_cases e : j = i - 1
    · subst e
      rw [same, show 10 - (i - 1) = 11 - i by omega]
    · rw [World.cell?_setCell_other _ _ _ _ (by simp only [ne_eq, Addr.mk.injEq, not_and]; intros; omega)]
      exact d.dig j (by omega) hj'

theorem and7 (v : Nat) (hv : v < 4294967296) : bits .and .u32 (v : Int) 7 = ((v % 8 : Nat) : Int) := by
  rw [show (7 : Int) = ((7 : Nat) : Int) from rfl, u32_and_nat v 7 hv (by decide), show (7 : Nat) = 2 ^ 3 - 1 from rfl, Nat.and_two_pow_sub_one_eq_mod]

theorem Dug.step' {w wr : World} {m i v : Nat} (d : Dug w m (i + 1) wr) (h1 : i + 1 ≤ 11) (hv : v = m / 8 ^ (11 - (i + 1))) :
    Dug w m i (wr.setCell ⟨w.heap.size, i, none⟩ (.int .u8 (48 + (v : Int) % 8))) := by
  have := d.step (by omega) h1
  rw [← hv] at this
  have e : ((48 + v % 8 : Nat) : Int) = 48 + (v : Int) % 8 := by omega
  rw [e] at this
  exact this

theorem pow_step (m i : Nat) (h : i + 1 ≤ 11) : m / 8 ^ (11 - i) = m / 8 ^ (11 - (i + 1)) / 8 := by
  rw [Nat.div_div_eq_div_mul, ← Nat.pow_succ, show (11 - (i + 1)).succ = 11 - i by omega]

theorem dug_start (w : World) (m : Nat) (w1 : World) (h : w1 = w.alloc (.cells #[.int .u8 0, .int .u8 0, .int .u8 0, .int .u8 0, .int .u8 0, .int .u8 0, .int .u8 0, .int .u8 0, .int .u8 0, .int .u8 0, .int .u8 0] 32)) : Dug w m 11 w1 := by
  subst h
  refine ⟨fun j hj => ?_, fun j => ?_, fun j h1 h2 => by omega, Stp.alloc w _⟩
  · rw [World.cell?_alloc_new]
    exact ⟨_, Array.getElem?_eq_getElem hj⟩
  · exact World.frozen?_alloc_new w _ _ j

theorem add_mk (b i j : Nat) : (⟨b, i, none⟩ : Addr).add j = ⟨b, i + j, none⟩ := by
  unfold Addr.add
  by_cases c : j = 0
  · subst c; rfl
  · rw [if_neg c]

theorem sl_row (b i : Nat) (h : i ≤ 5) (w : World) : (Instr.sliceAt 32 (.pointer (some ⟨b, 0, none⟩)) (some (.int .i64 (i : Int))) none none).run Try.prog w = .ok (.slice (some ⟨b, i, none⟩) (11 - i) (11 - i)) w := by
  have e : Try.prog.arrayLen 32 = 11 := by kernel_rfl
  rw [run_sliceAt_array_l w 32 ⟨b, 0, none⟩ (by kernel_rfl) .i64 (i : Int) (by omega) (by rw [e]; omega)]
  have hs : (sizeOf (Try.prog.elem 32)).run Try.prog w = .ok 1 w := by
    have : Try.prog.elem 32 = 5 := by kernel_rfl
    rw [this]
    go_simp
  rw [hs, e]
  show Result.ok (slicedAt ⟨b, 0, none⟩ i 11 11 1) w = _
  unfold slicedAt
  rw [if_neg (by omega), Nat.mul_one]
  rw [add_mk, Nat.zero_add]

def ub (x : Int) : UInt8 := UInt8.ofNat x.toNat

theorem push_data (s : ByteArray) (u : UInt8) : (s.push u).data.toList = s.data.toList ++ [u] := by
  show (s.data.push u).toList = _
  simp

theorem fold_push : ∀ (ns : List Int) (s : ByteArray), (ns.foldl (fun r n => r.push (UInt8.ofNat n.toNat)) s).data.toList = s.data.toList ++ ns.map ub
  | [], s => by simp
  | n :: r, s => by
    rw [List.foldl_cons, fold_push r (s.push (UInt8.ofNat n.toNat)), push_data, List.map_cons, List.append_assoc]
    rfl

/-- The digits, as a string. -/
theorem conv_dug {w wr : World} {m i : Nat} (d : Dug w m i wr) (hi : i ≤ 11) :
    ∃ S : ByteArray, (convert 34 9 (.slice (some ⟨w.heap.size, i, none⟩) (11 - i) (11 - i))).run Try.prog wr = .ok (.string S) wr ∧ S.data.toList = (oct m (11 - i)).map ub := by
  refine ⟨_, ?_, by rw [fold_push (oct m (11 - i)) ByteArray.empty]; rfl⟩
  rw [run_convert_bytes_string wr 34 9 5 _ _ _ (by kernel_rfl) (by kernel_rfl) (by kernel_rfl)]
  refine run_bytesToString wr _ (11 - i) (11 - i) _ ?_
  have hl : ((oct m (11 - i)).map (Value.int .u8)).length = 11 - i := by rw [List.length_map, oct_length]
  have := run_loadCells_list (P := Try.prog) (w := wr) ⟨w.heap.size, i, none⟩ ((oct m (11 - i)).map (Value.int .u8)) (fun j v hv => by
    have hj : j < 11 - i := by have := (List.getElem?_eq_some_iff.1 hv).1; omega
    rw [List.getElem?_map, oct_get m _ j hj] at hv
    have hd := d.dig (i + j) (by omega) (by omega)
    rw [show 10 - (i + j) = 11 - i - 1 - j by omega] at hd
    rw [add_mk]
    exact hd.trans hv)
  rw [hl] at this
  exact this

theorem pow_le {m k v : Nat} (e : v = m / 8 ^ k) (h : 0 < v) : 8 ^ k ≤ m := by
  rcases Nat.lt_or_ge m (8 ^ k) with c | c
  · rw [Nat.div_eq_of_lt c] at e; omega
  · exact c

theorem ne_lit {m k : Nat} (h : ¬m = k) : ((m : Int) == (k : Int)) = false := by
  rw [beq_eq_false_iff_ne]
  omega

/-- What 'FileMode(m).String()' comes to. -/
def Octs (m : Nat) (w : World) (e : Ending) (w' : World) : Prop :=
  ∃ S T, e = .returned (.string S) ∧ S.data.toList = (oct m T).map ub ∧ 6 ≤ T ∧ T ≤ 11 ∧ m < 8 ^ T ∧ (T = 6 ∨ 8 ^ (T - 1) ≤ m) ∧ Stp w w'

set_option maxRecDepth 100000 in
set_option maxHeartbeats 1000000 in
theorem str_run (m : Nat) (hm : m < 4294967296) (w : World) (h1 : ((m : Int) == 33188) = false) (h2 : ((m : Int) == 16384) = false) (h3 : ((m : Int) == 33261) = false) (h4 : ((m : Int) == 40960) = false) (h5 : ((m : Int) == 57344) = false) :
    Calls Try.prog 6 #[.int .u32 (m : Int)] w fun e w' => Octs m w e w' := by
  go_enter Try.func6, Try.ntmps6
  go_wp2
  go_loopg [4, 5] 11 (fun k s4 s5 wr => ∃ i v : Nat, i ≤ 11 ∧ k = i ∧ v = m / 8 ^ (11 - i) ∧ (5 ≤ i ∨ 8 ^ (10 - i) ≤ m) ∧ s4 = .int .i64 (i : Int) ∧ s5 = .int .u32 (v : Int) ∧ Dug w m i wr)
  case atStart => exact ⟨11, m, by omega, rfl, by simp, by omega, rfl, rfl, dug_start w m _ rfl⟩
  case round =>
    obtain ⟨i, v, hi, hk, hv, hT, rfl, rfl, d⟩ := hrel
    have HK : Hid (gk = i) := hk
    have HV : Hid (v = m / 8 ^ (11 - i)) := hv
    have HT : Hid (5 ≤ i ∨ 8 ^ (10 - i) ≤ m) := hT
    have hvb : Hid (v < 4294967296) := by
      show v < 4294967296
      have : v ≤ m := by rw [hv]; exact Nat.div_le_self _ _
      omega
    have hv0 : i = 0 → v = 0 := by
      intro e
      subst e
      rw [hv]
      exact Nat.div_eq_of_lt (Nat.lt_of_lt_of_le hm (by decide))
    clear hk hv hT
    by_cases hg : (0 : Int) < (v : Int)
    · have h0i : 0 < i := by omega
      obtain ⟨i, rfl⟩ : ∃ j, i = j + 1 := ⟨i - 1, by omega⟩
      obtain ⟨u, hu⟩ := d.there i (by omega)
      have hf := d.fr i
      have ha := and7 v hvb.out
      have cs := d.step' hi HV.out
      clear hv0
      go_wp2
      go_roundg i
      case measure => have := HK.out; omega
      case rel => exact ⟨i, v / 8, by omega, rfl, by rw [pow_step m i hi, ← HV.out], Or.inr (by have e := HV.out; rw [show 11 - (i + 1) = 10 - i by omega] at e; exact pow_le e (by omega)), rfl, by go_num, cs⟩
    · by_cases hg2 : (5 : Int) < (i : Int)
      · obtain ⟨i, rfl⟩ : ∃ j, i = j + 1 := ⟨i - 1, by omega⟩
        obtain rfl : v = 0 := by omega
        obtain ⟨u, hu⟩ := d.there i (by omega)
        have hf := d.fr i
        have ha := and7 0 hvb.out
        have cs := d.step' hi HV.out
        clear hv0
        go_wp2
        go_roundg i
        case measure => have := HK.out; omega
        case rel => exact ⟨i, 0 / 8, by omega, rfl, by rw [pow_step m i hi, ← HV.out], Or.inl (by omega), rfl, by go_num, cs⟩
      · obtain rfl : v = 0 := by omega
        have hs := fun w' => sl_row w.heap.size i (by omega) w'
        obtain ⟨S, hS, hd⟩ := conv_dug d hi
        go_wp2
        go_ret
        refine ⟨S, 11 - i, rfl, hd, by omega, by omega, ?_, ?_, d.stp⟩
        · have := HV.out
          exact Nat.lt_of_div_eq_zero (Nat.pow_pos (by decide)) this.symm
        · rcases HT.out with h | h
          · left; omega
          · right; rw [show 11 - i - 1 = 10 - i by omega]; exact h
set_option maxHeartbeats 1000000 in
/-- 'FileMode(m).String()'. -/
theorem str_any (m : Nat) (hm : m < 4294967296) (w : World) : Calls Try.prog 6 #[.int .u32 (m : Int)] w fun e w' => Octs m w e w' := by
  by_cases c1 : m = 33188
  · subst c1
    go_enter Try.func6, Try.ntmps6
    go_wp2
    go_ret
    exact ⟨_, 6, rfl, by decide +kernel, by decide, by decide, by decide, Or.inl rfl, Stp.refl _⟩
  by_cases c2 : m = 16384
  · subst c2
    go_enter Try.func6, Try.ntmps6
    go_wp2
    go_ret
    exact ⟨_, 6, rfl, by decide +kernel, by decide, by decide, by decide, Or.inl rfl, Stp.refl _⟩
  by_cases c3 : m = 33261
  · subst c3
    go_enter Try.func6, Try.ntmps6
    go_wp2
    go_ret
    exact ⟨_, 6, rfl, by decide +kernel, by decide, by decide, by decide, Or.inl rfl, Stp.refl _⟩
  by_cases c4 : m = 40960
  · subst c4
    go_enter Try.func6, Try.ntmps6
    go_wp2
    go_ret
    exact ⟨_, 6, rfl, by decide +kernel, by decide, by decide, by decide, Or.inl rfl, Stp.refl _⟩
  by_cases c5 : m = 57344
  · subst c5
    go_enter Try.func6, Try.ntmps6
    go_wp2
    go_ret
    exact ⟨_, 6, rfl, by decide +kernel, by decide, by decide, by decide, Or.inl rfl, Stp.refl _⟩
  exact str_run m hm w (ne_lit c1) (ne_lit c2) (ne_lit c3) (ne_lit c4) (ne_lit c5)
end Go.Proofs.Qxb6604153a
