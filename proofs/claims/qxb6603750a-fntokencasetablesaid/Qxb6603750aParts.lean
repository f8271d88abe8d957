/-
  THE PLAIN LAW OF A TOKEN FROM ITS PARTS, and the bytes' way to a string.
-/
import Derived.Test.Qxb6603750aBytes
namespace Go.Proofs.Qxb6603750a
open Go.RowKit

def ub (x : Int) : UInt8 := UInt8.ofNat x.toNat

theorem toNat_ub {x : Int} (h0 : 0 ≤ x) (h1 : x ≤ 255) : ((ub x).toNat : Int) = x := by
  unfold ub
  rw [UInt8.toNat_ofNat_of_lt' (by have : x.toNat ≤ 255 := by omega
                                   exact Nat.lt_of_le_of_lt this (by decide))]
  omega

theorem hexc_dig {v : Int} (h0 : 0 ≤ v) (h1 : v ≤ 15) : hexc (ub (digI v)) = true := by
  have hb : 0 ≤ digI v ∧ digI v ≤ 255 := by unfold digI; split <;> omega
  rw [hexc_iff, toNat_ub hb.1 hb.2]
  unfold digI
  split <;> omega

theorem digI_bd {v : Int} (h0 : 0 ≤ v) (h1 : v ≤ 15) : 0 ≤ digI v ∧ digI v ≤ 255 := by unfold digI; split <;> omega

theorem all_enc : ∀ xs : List Int, (∀ x ∈ xs, 0 ≤ x ∧ x ≤ 255) → ((encI xs).map ub).all hexc = true
  | [], _ => rfl
  | x :: r, h => by
    obtain ⟨h0, h1⟩ := h x (by simp)
    simp only [encI, List.map_cons, List.all_cons]
    rw [hexc_dig (by omega) (by omega), hexc_dig (by omega) (by omega), all_enc r (fun y hy => h y (by simp [hy]))]
    rfl

theorem hexB_enc (xs : List Int) (h : ∀ x ∈ xs, 0 ≤ x ∧ x ≤ 255) : hexB ((encI xs).map ub) = !xs.isEmpty := by
  unfold hexB
  rw [all_enc xs h]
  have h1 : ((encI xs).map ub).length % 2 = 0 := by rw [List.length_map, encI_length]; omega
  cases xs with
  | nil => rfl
  | cons x r =>
    simp only [encI, List.map_cons, List.length_cons, List.length_map] at h1 ⊢
    simp [h1]

theorem tok_policy (p : List Int) (hp : p.length = 28) (h : ∀ x ∈ p, 0 ≤ x ∧ x ≤ 255) : tokB ((encI p).map ub) = true := by
  have hl : ((encI p).map ub).length = 56 := by rw [List.length_map, encI_length, hp]
  have ht : ((encI p).map ub).take 56 = (encI p).map ub := List.take_of_length_le (by omega)
  have hd : ((encI p).map ub).drop 56 = [] := List.drop_of_length_le (by omega)
  have hne : p.isEmpty = false := by cases p with | nil => simp at hp | cons => rfl
  unfold tokB
  rw [ht, hd, hexB_enc p h, hne, hl]
  rfl

theorem tok_parts (p nm : List Int) (hp : p.length = 28) (h : ∀ x ∈ p, 0 ≤ x ∧ x ≤ 255) (hn : ∀ x ∈ nm, 0 ≤ x ∧ x ≤ 255) :
    tokB ((encI p ++ [46] ++ encI nm).map ub) = (decide (1 ≤ nm.length) && decide (nm.length ≤ 32)) := by
  have hl : ((encI p).map ub).length = 56 := by rw [List.length_map, encI_length, hp]
  have e : (encI p ++ [46] ++ encI nm).map ub = (encI p).map ub ++ (46 :: (encI nm).map ub) := by
    rw [List.map_append, List.map_append, List.append_assoc]
    rfl
  have ht : ((encI p).map ub ++ (46 :: (encI nm).map ub)).take 56 = (encI p).map ub := by
    rw [← hl]; exact List.take_left
  have hd : ((encI p).map ub ++ (46 :: (encI nm).map ub)).drop 56 = 46 :: (encI nm).map ub := by
    rw [← hl]; exact List.drop_left
  have hne : p.isEmpty = false := by cases p with | nil => simp at hp | cons => rfl
  have hle : decide (56 ≤ ((encI p).map ub ++ (46 :: (encI nm).map ub)).length) = true := by
    rw [decide_eq_true_iff, List.length_append, hl]; omega
  unfold tokB
  rw [e, ht, hd, hle, hexB_enc p h, hne]
  simp only [hexB_enc nm hn, List.length_map, encI_length]
  cases nm with
  | nil => rfl
  | cons x r =>
    by_cases c : (x :: r).length ≤ 32
    · rw [decide_eq_true c, decide_eq_true (by omega)]; simp
    · rw [decide_eq_false c, decide_eq_false (by omega)]; simp

/-! ### string(text) -/
theorem push_data (s : ByteArray) (u : UInt8) : (s.push u).data.toList = s.data.toList ++ [u] := by
  show (s.data.push u).toList = _
  simp

theorem fold_push : ∀ (ns : List Int) (s : ByteArray), (ns.foldl (fun r n => r.push (UInt8.ofNat n.toNat)) s).data.toList = s.data.toList ++ ns.map ub
  | [], s => by simp
  | n :: r, s => by
    rw [List.foldl_cons, fold_push r (s.push (UInt8.ofNat n.toNat)), push_data, List.map_cons, List.append_assoc]
    rfl

/-- The bytes of a row, as a string. -/
theorem conv_row {w : World} {r n cap : Nat} {xs : List Int} (row : w.ownsRow 0 5 1 (.slice (some ⟨r, 0, none⟩) n cap) n (xs.map (Value.int .u8))) :
    ∃ S : ByteArray, (convert 24 9 (.slice (some ⟨r, 0, none⟩) n cap)).run Try.prog w = .ok (.string S) w ∧ S.data.toList = xs.map ub := by
  refine ⟨_, ?_, by rw [fold_push xs ByteArray.empty]; rfl⟩
  rw [run_convert_bytes_string w 24 9 5 _ _ _ Try.underlying24 Try.underlying5 Try.underlying9]
  refine run_bytesToString w _ n cap xs ?_
  have hl : (xs.map (Value.int .u8)).length = n := by simpa using row.1
  have := run_loadCells_list (P := Try.prog) (w := w) ⟨r, 0, none⟩ (xs.map (Value.int .u8)) (fun j v hv => row.cells (g := r) rfl j v hv)
  rw [hl] at this
  exact this

end Go.Proofs.Qxb6603750a
