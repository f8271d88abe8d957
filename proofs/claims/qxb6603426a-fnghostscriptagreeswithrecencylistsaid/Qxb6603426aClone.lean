/-
  cloneHashes, the laws' own arrays, and the laws' bounds on lengths.
-/
import Derived.Test.Qxb6603426aGhost
namespace Go.Proofs.Qxb6603426a
open Go.RowKit Go.Maps

/-- A slice of integers that came in (as the rows' shells say it): nil; or a row of 'cap' cells, the numbers 'zs'. -/
def IsRow (k : IntKind) (w : World) (a : Option Addr) (len cap : Nat) (zs : List Int) : Prop :=
  (a = none ∧ len = 0 ∧ cap = 0 ∧ zs = []) ∨
  ∃ x, a = some x ∧ len ≤ cap ∧ cap ≤ maxLen ∧ zs.length = cap ∧ (∀ i, i < zs.length → w.cell? (x.add i) = some (.int k (zs.getD i 0))) ∧ ∀ n ∈ zs, (Lit.int k n).wf = true

/-- An array of the call's own, in block b: 'v' is a slice over it that holds the numbers xs. -/
structure Arr (w : World) (b : Nat) (v : Value) (xs : List Int) : Prop where
  idx : ∀ (i : Nat) (w' : World), i < xs.length → (Instr.indexAt 36 v (.int .i64 (i : Int))).run Try.prog w' = .ok (.pointer (some ⟨b, i, none⟩)) w'
  cell : ∀ (i : Nat) (x : Int), xs[i]? = some x → w.cell? ⟨b, i, none⟩ = some (.int .u64 x)
  wf : ∀ x ∈ xs, (Lit.int .u64 x).wf = true
  lt : 0 < xs.length → b < w.heap.size

theorem Try.cells29 : Try.prog.cellsOf 29 = 1 := by kernel_rfl

theorem idx_row (b n cap : Nat) (i : Nat) (w' : World) (h : i < n) : (Instr.indexAt 36 (.slice (some ⟨b, 0, none⟩) n cap) (.int .i64 (i : Int))).run Try.prog w' = .ok (.pointer (some ⟨b, i, none⟩)) w' := by
  go_simp

/-- What the copying has come to. -/
def Copied (w : World) (len : Nat) (zs : List Int) (k : Nat) (wr : World) : Prop :=
  ∃ cur, wr.ownsRow 0 29 1 (.slice (some ⟨w.heap.size, 0, none⟩) len len) len cur ∧ (∀ j, j < k → cur[j]? = some (.int .u64 (zs.getD j 0))) ∧ Stp w wr (fun _ => False)

theorem Copied.start {w w1 : World} {len : Nat} {zs : List Int} {xs : List Value} (own : w1.ownsRow 0 29 1 (.slice (some ⟨w.heap.size, 0, none⟩) len len) len xs) (gr : w.grownBy w1 none) : Copied w len zs 0 w1 :=
  ⟨xs, own, fun j hj => by omega, (Stp.of_grown gr).mono (fun i h => by cases h)⟩

theorem Copied.step {w wr : World} {len : Nat} {zs : List Int} {k : Nat} (c : Copied w len zs k wr) (hk : k < len) : Copied w len zs (k + 1) (wr.setCell ⟨w.heap.size, k, none⟩ (.int .u64 (zs.getD k 0))) := by
  obtain ⟨cur, own, hcur, s⟩ := c
  have hl : cur.length = len := by simpa using own.1
  refine ⟨_, (own.stored k (.int .u64 (zs.getD k 0))).1, fun j hj => ?_, s.trans (Stp.setCell wr _ _) (fun i h => .inr (by rw [h]; exact Nat.le_refl _))⟩
  by_cases e : j = k
  · subst e
    rw [List.getElem?_set_self (by omega)]
  · rw [List.getElem?_set_ne (by omega)]
    exact hcur j (by omega)

theorem Copied.cell {w wr : World} {len : Nat} {zs : List Int} {k j : Nat} (c : Copied w len zs k wr) (hj : j < len) : ∃ u, wr.cell? ⟨w.heap.size, j, none⟩ = some u := by
  obtain ⟨cur, own, hcur, s⟩ := c
  have hl : cur.length = len := by simpa using own.1
  exact ⟨_, by rw [own.cellAt j (by omega)]; exact List.getElem?_eq_getElem (by omega)⟩

theorem Copied.fr {w wr : World} {len : Nat} {zs : List Int} {k : Nat} (c : Copied w len zs k wr) (j : Nat) : wr.frozen? ⟨w.heap.size, j, none⟩ = false := by
  obtain ⟨cur, own, hcur, s⟩ := c
  exact own.frozenAt j

theorem Copied.old {w wr : World} {len : Nat} {zs : List Int} {k : Nat} (c : Copied w len zs k wr) {a : Addr} {u : Value} (h : w.cell? a = some u) : wr.cell? a = some u := by
  obtain ⟨cur, own, hcur, s⟩ := c
  rw [World.cell?_of_block (w := w) (s.block a.block (World.block_lt_of_cell? w a h) (fun f => f))]
  exact h

set_option maxHeartbeats 400000 in
theorem clone_run (x : Addr) (len cap : Nat) (zs : List Int) (w : World) (hl : len ≤ cap) (hlen : len ≤ 1048576) (hz : zs.length = cap) (hc : ∀ i, i < zs.length → w.cell? (x.add i) = some (.int .u64 (zs.getD i 0))) :
    Calls Try.prog 16 #[.slice (some x) len cap] w fun e w' => e = .returned (.slice (some ⟨w.heap.size, 0, none⟩) len len) ∧ Copied w len zs len w' := by
  obtain ⟨i0, hi, hz0, hz1, hz2⟩ := info_parts Try.info29
  have qn := fun (w : World) (a : Option Addr) (n c n' c' : Nat) => Lib.run_eql_slice_nil (P := Try.prog) w 36 29 a n c n' c' Try.underlying36
  obtain ⟨w1, hmk, own1, gr1⟩ := run_make_full (P := Try.prog) w 0 36 29 i0 (.int .u64 0) 1 Try.underlying36 hi hz0 hz1 .i64 .i64 len (by rw [hz2]; omega) (by unfold maxLen; omega) (Nat.zero_le _)
  have st := Copied.start (zs := zs) own1 gr1
  clear own1 gr1 hi hz0 hz1 hz2
  go_enter Try.func16, Try.ntmps16
  go_wp2
  go_loopg [4] len (fun k s4 wr => ∃ j : Nat, j ≤ len ∧ k = len - j ∧ s4 = .int .i64 (j : Int) ∧ Copied w len zs j wr)
  case atStart => exact ⟨0, Nat.zero_le _, rfl, rfl, st⟩
  case round =>
    obtain ⟨j, hj, hk, rfl, c⟩ := hrel
    have HK : Hid (gk = len - j) := hk
    clear hk st
    by_cases hlt : j < len
    · obtain ⟨u, hu⟩ := c.cell hlt
      have hf := c.fr j
      have hx := c.old (hc j (by omega))
      have cs := c.step hlt
      go_wp2
      go_roundg (len - (j + 1))
      case measure => have := HK.out; omega
      case rel => exact ⟨j + 1, by omega, rfl, by go_num, by simpa using cs⟩
    · have hjl : j = len := by omega
      subst hjl
      go_wp2
      go_ret
      exact ⟨rfl, c⟩

theorem Arr.stp {w w' : World} {G : Nat → Prop} {b : Nat} {v : Value} {xs : List Int} (a : Arr w b v xs) (s : Stp w w' G) (hG : 0 < xs.length → ¬ G b) : Arr w' b v xs := by
  refine ⟨a.idx, fun i x hx => ?_, a.wf, fun h => Nat.lt_of_lt_of_le (a.lt h) s.size⟩
  have hpos : 0 < xs.length := by have := (List.getElem?_eq_some_iff.1 hx).1; omega
  rw [World.cell?_of_block (w := w) (s.block b (a.lt hpos) (hG hpos))]
  exact a.cell i x hx

set_option maxHeartbeats 400000 in
theorem clone_nil (w : World) : Calls Try.prog 16 #[.slice none 0 0] w fun e w' => e = .returned (.slice none 0 0) ∧ w' = w := by
  have qn := fun (w : World) (a : Option Addr) (n c n' c' : Nat) => Lib.run_eql_slice_nil (P := Try.prog) w 36 29 a n c n' c' Try.underlying36
  go_enter Try.func16, Try.ntmps16
  go_wp2
  go_ret
  exact ⟨rfl, rfl⟩

/-- 'cloneHashes(s)': an array of the call's own that holds the same. -/
theorem clone_any {a : Option Addr} {len cap : Nat} {zs : List Int} {w : World} (hr : IsRow .u64 w a len cap zs) (hlen : len ≤ 1048576) :
    Calls Try.prog 16 #[.slice a len cap] w fun e w' => ∃ ao c, e = .returned (.slice ao len c) ∧ Arr w' w.heap.size (.slice ao len c) (zs.take len) ∧ Stp w w' (fun _ => False) := by
  rcases hr with ⟨rfl, rfl, rfl, rfl⟩ | ⟨x, rfl, h1, h2, h3, h4, h5⟩
  · refine (clone_nil w).mono ?_
    rintro e w' ⟨rfl, rfl⟩
    exact ⟨none, 0, rfl, ⟨fun i w' h => by simp at h, fun i x h => by simp at h, fun x h => by simp at h, fun h => by simp at h⟩, Stp.refl _ _⟩
  · refine (clone_run x len cap zs w h1 hlen h3 h4).mono ?_
    rintro e w' ⟨rfl, cur, own, hcur, s⟩
    have hl : cur.length = len := by simpa using own.1
    have htl : (zs.take len).length = len := by simp; omega
    refine ⟨_, _, rfl, ⟨fun i w'' h => idx_row _ _ _ i w'' (by omega), fun i y hy => ?_, fun y hy => h5 y (List.mem_of_mem_take hy), fun _ => (own.lt w.heap.size rfl).2⟩, s⟩
    have hi : i < len := by have := (List.getElem?_eq_some_iff.1 hy).1; omega
    rw [own.cellAt i (by omega), hcur i hi]
    rw [List.getElem?_take_of_lt hi] at hy
    simp [List.getD, hy]

set_option maxHeartbeats 400000 in
theorem bytes15 (l : Int) (a : Option Addr) (len cap : Nat) (w : World) (h : len ≤ 1048576) : Calls Try.prog 15 #[.int .i64 l, .slice a len cap] w fun e w' => e = .returned (.bool true) ∧ w = w' := by
  have h' : ¬ (1048576 : Int) < (len : Int) := by omega
  go_enter Try.func15, Try.ntmps15
  go_wp2
  go_ret
  exact ⟨rfl, rfl⟩

set_option maxHeartbeats 400000 in
theorem bytes15_no (l : Int) (a : Option Addr) (len cap : Nat) (w : World) (h : 1048576 < len) : Calls Try.prog 15 #[.int .i64 l, .slice a len cap] w fun e w' => e = .returned (.bool false) ∧ w = w' := by
  have h' : (1048576 : Int) < (len : Int) := by omega
  go_enter Try.func15, Try.ntmps15
  go_wp2
  go_ret
  exact ⟨rfl, rfl⟩

set_option maxHeartbeats 400000 in
theorem bytes17 (l h : Int) (a b : Option Addr) (len cap len2 cap2 : Nat) (w : World) (hb : len + len2 ≤ 1048576) : Calls Try.prog 17 #[.int .i64 l, .slice a len cap, .int .u64 h, .slice b len2 cap2] w fun e w' => e = .returned (.bool true) ∧ w = w' := by
  have h1 : ¬ (1048576 : Int) < (len : Int) := by omega
  have h2 : ¬ (1048576 : Int) < (len2 : Int) := by omega
  have h3 : ¬ (1048576 : Int) < (len : Int) + (len2 : Int) := by omega
  go_enter Try.func17, Try.ntmps17
  go_wp2
  go_ret
  exact ⟨rfl, rfl⟩

set_option maxHeartbeats 800000 in
theorem bytes17_no (l h : Int) (a b : Option Addr) (len cap len2 cap2 : Nat) (w : World) (hb : ¬ len + len2 ≤ 1048576) (hm1 : len ≤ maxLen) (hm2 : len2 ≤ maxLen) : Calls Try.prog 17 #[.int .i64 l, .slice a len cap, .int .u64 h, .slice b len2 cap2] w fun e w' => e = .returned (.bool false) ∧ w = w' := by
  unfold maxLen at hm1 hm2
  by_cases h1 : (1048576 : Int) < (len : Int)
  · go_enter Try.func17, Try.ntmps17
    go_wp2
    go_ret
    exact ⟨rfl, rfl⟩
  · by_cases h2 : (1048576 : Int) < (len2 : Int)
    · go_enter Try.func17, Try.ntmps17
      go_wp2
      go_ret
      exact ⟨rfl, rfl⟩
    · have h3 : (1048576 : Int) < (len : Int) + (len2 : Int) := by omega
      go_enter Try.func17, Try.ntmps17
      go_wp2
      go_ret
      exact ⟨rfl, rfl⟩

set_option maxHeartbeats 400000 in
theorem bytes18 (l h : Int) (a b : Option Addr) (len cap len2 cap2 : Nat) (w : World) (hb : len + len2 ≤ 1048576) : Calls Try.prog 18 #[.int .i64 l, .slice a len cap, .int .u64 h, .slice b len2 cap2] w fun e w' => e = .returned (.bool true) ∧ w = w' := by
  have h1 : ¬ (1048576 : Int) < (len : Int) := by omega
  have h2 : ¬ (1048576 : Int) < (len2 : Int) := by omega
  have h3 : ¬ (1048576 : Int) < (len : Int) + (len2 : Int) := by omega
  go_enter Try.func18, Try.ntmps18
  go_wp2
  go_ret
  exact ⟨rfl, rfl⟩

set_option maxHeartbeats 800000 in
theorem bytes18_no (l h : Int) (a b : Option Addr) (len cap len2 cap2 : Nat) (w : World) (hb : ¬ len + len2 ≤ 1048576) (hm1 : len ≤ maxLen) (hm2 : len2 ≤ maxLen) : Calls Try.prog 18 #[.int .i64 l, .slice a len cap, .int .u64 h, .slice b len2 cap2] w fun e w' => e = .returned (.bool false) ∧ w = w' := by
  unfold maxLen at hm1 hm2
  by_cases h1 : (1048576 : Int) < (len : Int)
  · go_enter Try.func18, Try.ntmps18
    go_wp2
    go_ret
    exact ⟨rfl, rfl⟩
  · by_cases h2 : (1048576 : Int) < (len2 : Int)
    · go_enter Try.func18, Try.ntmps18
      go_wp2
      go_ret
      exact ⟨rfl, rfl⟩
    · have h3 : (1048576 : Int) < (len : Int) + (len2 : Int) := by omega
      go_enter Try.func18, Try.ntmps18
      go_wp2
      go_ret
      exact ⟨rfl, rfl⟩

theorem IsRow.len_le {k : IntKind} {w : World} {a : Option Addr} {len cap : Nat} {zs : List Int} (h : IsRow k w a len cap zs) : len ≤ maxLen ∧ (zs.take len).length = len := by
  rcases h with ⟨_, rfl, _, rfl⟩ | ⟨x, _, h1, h2, h3, _⟩
  · exact ⟨Nat.zero_le _, rfl⟩
  · exact ⟨by omega, by simp; omega⟩

end Go.Proofs.Qxb6603426a
