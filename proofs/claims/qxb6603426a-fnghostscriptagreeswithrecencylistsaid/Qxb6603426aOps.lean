/-
  cloneOps, and the script's own array.
-/
import Derived.Test.Qxb6603426aLruAll
namespace Go.Proofs.Qxb6603426a
open Go.RowKit Go.Maps

theorem Try.info31 : (Try.prog.info? 31).map (fun i => (i.zero, i.size, i.bytes)) = some (some (.agg #[.bool false, .int .u64 0]), 2, 16) := by kernel_rfl

/-- A script that came in: nil; or empty; or its steps' cells, two a step. -/
def IsOps (w : World) (a : Option Addr) (len cap : Nat) (fs : Nat → Bool) (hs : Nat → Int) : Prop :=
  (a = none ∧ len = 0 ∧ cap = 0) ∨ (len = 0 ∧ ∃ x, a = some x) ∨
  ∃ xb xo, a = some ⟨xb, xo, none⟩ ∧ 0 < len ∧ len ≤ cap ∧ cap ≤ maxLen ∧ ∀ i, i < len → w.cell? ⟨xb, xo + i * 2, none⟩ = some (.bool (fs i)) ∧ w.cell? ⟨xb, xo + i * 2 + 1, none⟩ = some (.int .u64 (hs i)) ∧ (Lit.int .u64 (hs i)).wf = true

/-- The script in an array of the call's own, in block b. -/
structure OArr (w : World) (b : Nat) (v : Value) (n : Nat) (fs : Nat → Bool) (hs : Nat → Int) : Prop where
  idx : ∀ (i : Nat) (w' : World), i < n → (Instr.indexAt 22 v (.int .i64 (i : Int))).run Try.prog w' = .ok (.pointer (some ⟨b, i * 2, none⟩)) w'
  c0 : ∀ i, i < n → w.cell? ⟨b, i * 2, none⟩ = some (.bool (fs i))
  c1 : ∀ i, i < n → w.cell? ⟨b, i * 2 + 1, none⟩ = some (.int .u64 (hs i))
  wf : ∀ i, i < n → (Lit.int .u64 (hs i)).wf = true
  lt : 0 < n → b < w.heap.size

theorem OArr.stp {w w' : World} {G : Nat → Prop} {b : Nat} {v : Value} {n : Nat} {fs : Nat → Bool} {hs : Nat → Int} (a : OArr w b v n fs hs) (s : Stp w w' G) (hG : 0 < n → ¬ G b) : OArr w' b v n fs hs := by
  have key : ∀ i, i < n → ∀ j, w'.cell? ⟨b, j, none⟩ = w.cell? ⟨b, j, none⟩ := fun i hi j => World.cell?_of_block (w := w) (s.block b (a.lt (by omega)) (hG (by omega)))
  exact ⟨a.idx, fun i hi => by rw [key i hi]; exact a.c0 i hi, fun i hi => by rw [key i hi]; exact a.c1 i hi, a.wf, fun h => Nat.lt_of_lt_of_le (a.lt h) s.size⟩

theorem oidx_row (b n cap : Nat) (i : Nat) (w' : World) (h : i < n) : (Instr.indexAt 22 (.slice (some ⟨b, 0, none⟩) n cap) (.int .i64 (i : Int))).run Try.prog w' = .ok (.pointer (some ⟨b, i * 2, none⟩)) w' := by
  go_simp

/-- What the copying has come to. -/
def OCopied (w : World) (len : Nat) (fs : Nat → Bool) (hs : Nat → Int) (k : Nat) (wr : World) : Prop :=
  ∃ cur, wr.ownsRow 0 31 2 (.slice (some ⟨w.heap.size, 0, none⟩) len len) len cur ∧ (∀ j, j < k → cur[j * 2]? = some (.bool (fs j)) ∧ cur[j * 2 + 1]? = some (.int .u64 (hs j))) ∧ Stp w wr (fun _ => False)

theorem OCopied.start {w w1 : World} {len : Nat} {fs : Nat → Bool} {hs : Nat → Int} {xs : List Value} (own : w1.ownsRow 0 31 2 (.slice (some ⟨w.heap.size, 0, none⟩) len len) len xs) (gr : w.grownBy w1 none) : OCopied w len fs hs 0 w1 :=
  ⟨xs, own, fun j hj => by omega, (Stp.of_grown gr).mono (fun i h => by cases h)⟩

theorem OCopied.step {w wr : World} {len : Nat} {fs : Nat → Bool} {hs : Nat → Int} {k : Nat} (c : OCopied w len fs hs k wr) (hk : k < len) :
    OCopied w len fs hs (k + 1) ((wr.setCell ⟨w.heap.size, k * 2, none⟩ (.bool (fs k))).setCell ⟨w.heap.size, k * 2 + 1, none⟩ (.int .u64 (hs k))) := by
  obtain ⟨cur, own, hcur, s⟩ := c
  have hl : cur.length = len * 2 := own.1
  have o1 := (own.stored (k * 2) (.bool (fs k))).1
  have o2 := (o1.stored (k * 2 + 1) (.int .u64 (hs k))).1
  have s1 : Stp w (wr.setCell ⟨w.heap.size, k * 2, none⟩ (.bool (fs k))) (fun _ => False) := s.trans (Stp.setCell wr _ _) (fun i h => .inr (by rw [h]; exact Nat.le_refl _))
  refine ⟨_, o2, fun j hj => ?_, s1.trans (Stp.setCell _ _ _) (fun i h => .inr (by rw [h]; exact Nat.le_refl _))⟩
  by_cases e : j = k
  · subst e
    refine ⟨?_, ?_⟩
    · rw [List.getElem?_set_ne (by omega), List.getElem?_set_self (by omega)]
    · rw [List.getElem?_set_self (by simp; omega)]
  · have := hcur j (by omega)
    refine ⟨?_, ?_⟩
    · rw [List.getElem?_set_ne (by omega), List.getElem?_set_ne (by omega)]; exact this.1
    · rw [List.getElem?_set_ne (by omega), List.getElem?_set_ne (by omega)]; exact this.2

theorem OCopied.cell {w wr : World} {len : Nat} {fs : Nat → Bool} {hs : Nat → Int} {k j : Nat} (c : OCopied w len fs hs k wr) (hj : j < len * 2) : ∃ u, wr.cell? ⟨w.heap.size, j, none⟩ = some u := by
  obtain ⟨cur, own, hcur, s⟩ := c
  have hl : cur.length = len * 2 := own.1
  exact ⟨_, by rw [own.cellAt j hj]; exact List.getElem?_eq_getElem (by omega)⟩

theorem OCopied.fr {w wr : World} {len : Nat} {fs : Nat → Bool} {hs : Nat → Int} {k : Nat} (c : OCopied w len fs hs k wr) (j : Nat) : wr.frozen? ⟨w.heap.size, j, none⟩ = false := by
  obtain ⟨cur, own, hcur, s⟩ := c
  exact own.frozenAt j

theorem OCopied.old {w wr : World} {len : Nat} {fs : Nat → Bool} {hs : Nat → Int} {k : Nat} (c : OCopied w len fs hs k wr) {a : Addr} {u : Value} (h : w.cell? a = some u) : wr.cell? a = some u := by
  obtain ⟨cur, own, hcur, s⟩ := c
  rw [World.cell?_of_block (w := w) (s.block a.block (World.block_lt_of_cell? w a h) (fun f => f))]
  exact h

set_option maxHeartbeats 400000 in
theorem oclone_run (xb xo : Nat) (len cap : Nat) (fs : Nat → Bool) (hs : Nat → Int) (w : World) (hlen : len ≤ 1048576) (hc : ∀ i, i < len → w.cell? ⟨xb, xo + i * 2, none⟩ = some (.bool (fs i)) ∧ w.cell? ⟨xb, xo + i * 2 + 1, none⟩ = some (.int .u64 (hs i)) ∧ (Lit.int .u64 (hs i)).wf = true) :
    Calls Try.prog 8 #[.slice (some ⟨xb, xo, none⟩) len cap] w fun e w' => e = .returned (.slice (some ⟨w.heap.size, 0, none⟩) len len) ∧ OCopied w len fs hs len w' := by
  obtain ⟨i0, hi, hz0, hz1, hz2⟩ := info_parts Try.info31
  have qn := fun (w : World) (a : Option Addr) (n c n' c' : Nat) => Lib.run_eql_slice_nil (P := Try.prog) w 22 31 a n c n' c' Try.underlying22
  obtain ⟨w1, hmk, own1, gr1⟩ := run_make_full (P := Try.prog) w 0 22 31 i0 (.agg #[.bool false, .int .u64 0]) 2 Try.underlying22 hi hz0 hz1 .i64 .i64 len (by rw [hz2]; omega) (by unfold maxLen; omega) (Nat.zero_le _)
  have st := OCopied.start (fs := fs) (hs := hs) own1 gr1
  clear own1 gr1 hi hz0 hz1 hz2
  go_enter Try.func8, Try.ntmps8
  go_wp2
  go_loopg [4] len (fun k s4 wr => ∃ j : Nat, j ≤ len ∧ k = len - j ∧ s4 = .int .i64 (j : Int) ∧ OCopied w len fs hs j wr)
  case atStart => exact ⟨0, Nat.zero_le _, rfl, rfl, st⟩
  case round =>
    obtain ⟨j, hj, hk, rfl, c⟩ := hrel
    have HK : Hid (gk = len - j) := hk
    clear hk st
    by_cases hlt : j < len
    · obtain ⟨u, hu⟩ := c.cell (j := j * 2) (by omega)
      obtain ⟨u', hu'⟩ := c.cell (j := j * 2 + 1) (by omega)
      have hf := c.fr (j * 2)
      have hf' := c.fr (j * 2 + 1)
      have hx := c.old (hc j hlt).1
      have hx' := c.old (hc j hlt).2.1
      have cs := c.step hlt
      go_wp2
      go_roundg (len - (j + 1))
      case measure => have := HK.out; omega
      case rel => exact ⟨j + 1, by omega, rfl, by go_num, by simpa using cs⟩
    · have hjl : j = len := by omega
      subst hjl
      go_wp2
      go_ret
      exact ⟨rfl, c⟩

set_option maxHeartbeats 400000 in
theorem oclone_nil (w : World) : Calls Try.prog 8 #[.slice none 0 0] w fun e w' => e = .returned (.slice none 0 0) ∧ w' = w := by
  have qn := fun (w : World) (a : Option Addr) (n c n' c' : Nat) => Lib.run_eql_slice_nil (P := Try.prog) w 22 31 a n c n' c' Try.underlying22
  go_enter Try.func8, Try.ntmps8
  go_wp2
  go_ret
  exact ⟨rfl, rfl⟩

set_option maxHeartbeats 400000 in
theorem oclone_empty (x : Addr) (cap : Nat) (w : World) : Calls Try.prog 8 #[.slice (some x) 0 cap] w fun e w' => e = .returned (.slice (some ⟨w.heap.size, 0, none⟩) 0 0) ∧ Stp w w' (fun _ => False) := by
  obtain ⟨i0, hi, hz0, hz1, hz2⟩ := info_parts Try.info31
  have qn := fun (w : World) (a : Option Addr) (n c n' c' : Nat) => Lib.run_eql_slice_nil (P := Try.prog) w 22 31 a n c n' c' Try.underlying22
  obtain ⟨w1, hmk, own1, gr1⟩ := run_make_full (P := Try.prog) w 0 22 31 i0 (.agg #[.bool false, .int .u64 0]) 2 Try.underlying22 hi hz0 hz1 .i64 .i64 0 (by omega) (Nat.zero_le _) (Nat.zero_le _)
  have hmk' : (Instr.makeSlice 22 (.int .i64 0) (.int .i64 0)).run Try.prog w = .ok (.slice (some ⟨w.heap.size, 0, none⟩) 0 0) w1 := hmk
  have st : Stp w w1 (fun _ => False) := (Stp.of_grown gr1).mono (fun i h => by cases h)
  clear own1 gr1 hi hz0 hz1 hz2 hmk
  go_enter Try.func8, Try.ntmps8
  go_wp2
  go_loopg [4] 0 (fun k s4 wr => k = 0 ∧ s4 = .int .i64 0 ∧ wr = w1)
  case atStart => exact ⟨rfl, rfl, rfl⟩
  case round =>
    obtain ⟨hk, rfl, rfl⟩ := hrel
    clear hk
    go_wp2
    go_ret
    exact ⟨rfl, st⟩

/-- 'cloneOps(s)'. -/
theorem oclone_any {a : Option Addr} {len cap : Nat} {fs : Nat → Bool} {hs : Nat → Int} {w : World} (hr : IsOps w a len cap fs hs) (hlen : len ≤ 1048576) :
    Calls Try.prog 8 #[.slice a len cap] w fun e w' => ∃ ao c, e = .returned (.slice ao len c) ∧ OArr w' w.heap.size (.slice ao len c) len fs hs ∧ Stp w w' (fun _ => False) := by
  rcases hr with ⟨rfl, rfl, rfl⟩ | ⟨rfl, x, rfl⟩ | ⟨xb, xo, rfl, h1, h2, h3, h4⟩
  · refine (oclone_nil w).mono ?_
    rintro e w' ⟨rfl, rfl⟩
    exact ⟨none, 0, rfl, ⟨fun i w' h => by omega, fun i h => by omega, fun i h => by omega, fun i h => by omega, fun h => by omega⟩, Stp.refl _ _⟩
  · refine (oclone_empty x cap w).mono ?_
    rintro e w' ⟨rfl, s⟩
    exact ⟨_, 0, rfl, ⟨fun i w' h => by omega, fun i h => by omega, fun i h => by omega, fun i h => by omega, fun h => by omega⟩, s⟩
  · refine (oclone_run xb xo len cap fs hs w hlen h4).mono ?_
    rintro e w' ⟨rfl, cur, own, hcur, s⟩
    have hl : cur.length = len * 2 := own.1
    refine ⟨_, _, rfl, ⟨fun i w'' h => oidx_row _ _ _ i w'' h, fun i hi => ?_, fun i hi => ?_, fun i hi => (h4 i hi).2.2, fun _ => (own.lt w.heap.size rfl).2⟩, s⟩
    · rw [own.cellAt (i * 2) (by omega)]; exact (hcur i hi).1
    · rw [own.cellAt (i * 2 + 1) (by omega)]; exact (hcur i hi).2

set_option maxHeartbeats 400000 in
theorem bytes7 (l : Int) (a : Option Addr) (len cap : Nat) (w : World) (h : len ≤ 1048576) : Calls Try.prog 7 #[.int .i64 l, .slice a len cap] w fun e w' => e = .returned (.bool true) ∧ w = w' := by
  have h' : ¬ (1048576 : Int) < (len : Int) := by omega
  go_enter Try.func7, Try.ntmps7
  go_wp2
  go_ret
  exact ⟨rfl, rfl⟩

set_option maxHeartbeats 400000 in
theorem bytes7_no (l : Int) (a : Option Addr) (len cap : Nat) (w : World) (h : 1048576 < len) : Calls Try.prog 7 #[.int .i64 l, .slice a len cap] w fun e w' => e = .returned (.bool false) ∧ w = w' := by
  have h' : (1048576 : Int) < (len : Int) := by omega
  go_enter Try.func7, Try.ntmps7
  go_wp2
  go_ret
  exact ⟨rfl, rfl⟩

end Go.Proofs.Qxb6603426a
