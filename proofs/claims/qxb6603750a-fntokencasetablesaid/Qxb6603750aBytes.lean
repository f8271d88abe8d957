/-
  zzDigit, zzEncode, zzCloneBytes: the walks, over arrays of the call's own.
-/
import Derived.Test.Qxb6603750aToken
import Derived.Maps.AppendAt
import Derived.OpenShut
namespace Go.Proofs.Qxb6603750a
open Go.RowKit

def digI (v : Int) : Int := if v < 10 then 48 + v else 87 + v

theorem ret_u8 {a b : Int} (h : a = b) : Ending.returned (.int .u8 a) = .returned (.int .u8 b) := by rw [h]

set_option maxHeartbeats 400000 in
theorem digit_any (v : Int) (w : World) (h0 : 0 ≤ v) (h1 : v ≤ 15) : Calls Try.prog 25 #[.int .u8 v] w fun e w' => e = .returned (.int .u8 (digI v)) ∧ w = w' := by
  unfold digI
  by_cases h : v < 10
  · rw [if_pos h]
    go_enter Try.func25, Try.ntmps25
    go_wp2
    go_ret
    exact ⟨rfl, rfl⟩
  · rw [if_neg h]
    go_enter Try.func25, Try.ntmps25
    go_wp2
    go_ret
    exact ⟨ret_u8 (by omega), rfl⟩

/-- w' is w but for new blocks. -/
structure Stp (w w' : World) : Prop where
  os : w'.os = w.os
  tape : w'.tape = w.tape
  output : w'.output = w.output
  size : w.heap.size ≤ w'.heap.size
  block : ∀ i, i < w.heap.size → w'.heap[i]? = w.heap[i]?

theorem Stp.refl (w : World) : Stp w w := ⟨rfl, rfl, rfl, Nat.le_refl _, fun _ _ => rfl⟩
theorem Stp.trans {a b c : World} (h : Stp a b) (k : Stp b c) : Stp a c :=
  ⟨k.os.trans h.os, k.tape.trans h.tape, k.output.trans h.output, Nat.le_trans h.size k.size, fun i hi => by rw [k.block i (Nat.lt_of_lt_of_le hi h.size), h.block i hi]⟩
theorem Stp.below {w w' : World} (h : Stp w w') : Below w.heap.size w w' := ⟨h.os, h.tape, h.output, h.size, h.block⟩
theorem Stp.alloc (w : World) (o : Obj) : Stp w (w.alloc o) := ⟨rfl, rfl, rfl, by simp, fun i hi => Below.heap_alloc w o i hi⟩
theorem Stp.cell {w w' : World} (s : Stp w w') {a : Addr} {u : Value} (h : w.cell? a = some u) : w'.cell? a = some u := by
  rw [World.cell?_of_block (w := w) (s.block a.block (World.block_lt_of_cell? w a h))]
  exact h
/-- A block that was not there may be written. -/
theorem Stp.setNew {w wr : World} (s : Stp w wr) {a : Addr} (h : w.heap.size ≤ a.block) (u : Value) : Stp w (wr.setCell a u) :=
  ⟨s.os, s.tape, s.output, by simp [World.setCell]; exact s.size, fun i hi => by rw [Below.heap_setCell wr a u i (by omega)]; exact s.block i hi⟩
theorem Stp.grown {w w1 w' : World} {row : Option Nat} (s : Stp w w1) (g : w1.grownBy w' row) (h : ∀ r, row = some r → w.heap.size ≤ r) : Stp w w' :=
  ⟨g.os.trans s.os, g.tape.trans s.tape, g.output.trans s.output, Nat.le_trans s.size g.size, fun i hi => by
    rw [g.block i (Nat.lt_of_lt_of_le hi s.size) (fun e => by have := h i e.symm; omega), s.block i hi]⟩

/-- A slice of bytes that came in (as the rows' shells say it). -/
def IsRow (k : IntKind) (w : World) (a : Option Addr) (len cap : Nat) (zs : List Int) : Prop :=
  (a = none ∧ len = 0 ∧ cap = 0 ∧ zs = []) ∨
  ∃ x, a = some x ∧ len ≤ cap ∧ cap ≤ maxLen ∧ zs.length = cap ∧ (∀ i, i < zs.length → w.cell? (x.add i) = some (.int k (zs.getD i 0))) ∧ ∀ n ∈ zs, (Lit.int k n).wf = true

/-- Bytes that a slice 'v' leads to, in block b. -/
structure BArr (w : World) (b : Nat) (v : Value) (xs : List Int) : Prop where
  idx : ∀ (i : Nat) (w' : World), i < xs.length → (Instr.indexAt 24 v (.int .i64 (i : Int))).run Try.prog w' = .ok (.pointer (some ⟨b, i, none⟩)) w'
  cell : ∀ (i : Nat) (x : Int), xs[i]? = some x → w.cell? ⟨b, i, none⟩ = some (.int .u8 x)
  bd : ∀ x ∈ xs, 0 ≤ x ∧ x ≤ 255

theorem BArr.stp {w w' : World} {b : Nat} {v : Value} {xs : List Int} (a : BArr w b v xs) (s : Stp w w') : BArr w' b v xs :=
  ⟨a.idx, fun i x hx => s.cell (a.cell i x hx), a.bd⟩

theorem bidx_row (b n cap : Nat) (i : Nat) (w' : World) (h : i < n) : (Instr.indexAt 24 (.slice (some ⟨b, 0, none⟩) n cap) (.int .i64 (i : Int))).run Try.prog w' = .ok (.pointer (some ⟨b, i, none⟩)) w' := by
  go_simp

theorem Try.info5 : (Try.prog.info? 5).map (fun i => (i.zero, i.size, i.bytes)) = some (some (.int .u8 0), 1, 1) := by kernel_rfl

theorem and15 : ∀ n : Nat, n < 256 → bits .and .u8 (n : Int) 15 = ((n % 16 : Nat) : Int) := by decide +kernel

/-- The hex digits of the bytes. -/
def encI : List Int → List Int
  | [] => []
  | x :: r => digI (x / 16) :: digI (x % 16) :: encI r

theorem encI_length : ∀ xs : List Int, (encI xs).length = 2 * xs.length
  | [] => rfl
  | x :: r => by simp [encI, encI_length r]; omega

theorem encI_get : ∀ (xs : List Int) (j : Nat) (x : Int), xs[j]? = some x → (encI xs)[2 * j]? = some (digI (x / 16)) ∧ (encI xs)[2 * j + 1]? = some (digI (x % 16))
  | [], j, x, h => by simp at h
  | y :: r, 0, x, h => by simp at h; subst h; exact ⟨rfl, rfl⟩
  | y :: r, j + 1, x, h => by
    simp at h
    have := encI_get r j x h
    rw [show 2 * (j + 1) = 2 * j + 2 by omega]
    exact this

/-- What the encoding has come to. -/
def Enced (w : World) (n : Nat) (xs : List Int) (k : Nat) (wr : World) : Prop :=
  ∃ cur, wr.ownsRow 0 5 1 (.slice (some ⟨w.heap.size, 0, none⟩) (2 * n) (2 * n)) (2 * n) cur ∧ (∀ j, j < 2 * k → cur[j]? = (encI xs)[j]?.map (Value.int .u8)) ∧ Stp w wr

theorem Enced.cell {w wr : World} {n : Nat} {xs : List Int} {k j : Nat} (c : Enced w n xs k wr) (hj : j < 2 * n) : ∃ u, wr.cell? ⟨w.heap.size, j, none⟩ = some u := by
  obtain ⟨cur, own, hcur, s⟩ := c
  have hl : cur.length = 2 * n := by simpa using own.1
  exact ⟨_, by rw [own.cellAt j (by omega)]; exact List.getElem?_eq_getElem (by omega)⟩
theorem Enced.fr {w wr : World} {n : Nat} {xs : List Int} {k : Nat} (c : Enced w n xs k wr) (j : Nat) : wr.frozen? ⟨w.heap.size, j, none⟩ = false := by
  obtain ⟨cur, own, hcur, s⟩ := c
  exact own.frozenAt j
theorem Enced.step {w wr : World} {n : Nat} {xs : List Int} {k : Nat} {x : Int} (c : Enced w n xs k wr) (hk : k < n) (hx : xs[k]? = some x) :
    Enced w n xs (k + 1) ((wr.setCell ⟨w.heap.size, 2 * k, none⟩ (.int .u8 (digI (x / 16)))).setCell ⟨w.heap.size, 2 * k + 1, none⟩ (.int .u8 (digI (x % 16)))) := by
  obtain ⟨cur, own, hcur, s⟩ := c
  have hl : cur.length = 2 * n := by simpa using own.1
  obtain ⟨e1, e2⟩ := encI_get xs k x hx
  have o1 := (own.stored (2 * k) (.int .u8 (digI (x / 16)))).1
  have o2 := (o1.stored (2 * k + 1) (.int .u8 (digI (x % 16)))).1
  refine ⟨_, o2, fun j hj => ?_, (s.setNew (a := ⟨w.heap.size, 2 * k, none⟩) (Nat.le_refl _) _).setNew (a := ⟨w.heap.size, 2 * k + 1, none⟩) (Nat.le_refl _) _⟩
  by_cases c1 : j = 2 * k + 1
  · subst c1
    rw [List.getElem?_set_self (by simp; omega), e2]
    rfl
  · rw [List.getElem?_set_ne (by omega)]
    by_cases c2 : j = 2 * k
    · subst c2
      rw [List.getElem?_set_self (by omega), e1]
      rfl
    · rw [List.getElem?_set_ne (by omega)]
      exact hcur j (by omega)

set_option maxHeartbeats 1000000 in
theorem enc_run (ao : Option Addr) (b n cap : Nat) (xs : List Int) (w : World) (hn : n ≤ 1048576) (hlen : xs.length = n) (a : BArr w b (.slice ao n cap) xs) :
    Calls Try.prog 16 #[.slice ao n cap] w fun e w' => e = .returned (.slice (some ⟨w.heap.size, 0, none⟩) (2 * n) (2 * n)) ∧ Enced w n xs n w' := by
  obtain ⟨i0, hi, hz0, hz1, hz2⟩ := info_parts Try.info5
  obtain ⟨w1, hmk0, own1, gr1⟩ := run_make_full (P := Try.prog) w 0 24 5 i0 (.int .u8 0) 1 Try.underlying24 hi hz0 hz1 .i64 .i64 (2 * n) (by rw [hz2]; omega) (by unfold maxLen; omega) (Nat.zero_le _)
  have e2n : ((2 * n : Nat) : Int) = 2 * (n : Int) := by omega
  rw [e2n] at hmk0
  have st : Enced w n xs 0 w1 := ⟨_, own1, fun j hj => by omega, (Stp.refl w).grown gr1 (fun r h => by cases h)⟩
  have HL : Hid (xs.length = n) := hlen
  clear own1 gr1 hi hz0 hz1 hz2 hlen e2n
  go_enter Try.func16, Try.ntmps16
  go_wp2
  go_loopg [4] n (fun k s4 wr => ∃ j : Nat, j ≤ n ∧ k = n - j ∧ s4 = .int .i64 (j : Int) ∧ Enced w n xs j wr)
  case atStart => exact ⟨0, Nat.zero_le _, rfl, rfl, st⟩
  case round =>
    obtain ⟨j, hj, hk, rfl, c⟩ := hrel
    have HK : Hid (gk = n - j) := hk
    clear hk st
    by_cases hlt : j < n
    · obtain ⟨x, hx⟩ : ∃ x, xs[j]? = some x := ⟨_, List.getElem?_eq_getElem (by rw [HL.out]; exact hlt)⟩
      obtain ⟨hb0, hb1⟩ := a.bd x (List.mem_of_getElem? hx)
      have hix := fun w' => a.idx j w' (by rw [HL.out]; exact hlt)
      have s0 : Stp w wr := by obtain ⟨cur, _, _, s⟩ := c; exact s
      have hcx := s0.cell (a.cell j x hx)
      obtain ⟨u, hu⟩ := c.cell (j := 2 * j) (by omega)
      have hf := c.fr (2 * j)
      have cs := c.step hlt hx
      have c1 : ∃ u', (wr.setCell ⟨w.heap.size, 2 * j, none⟩ (.int .u8 (digI (x / 16)))).cell? ⟨w.heap.size, 2 * j + 1, none⟩ = some u' := by
        obtain ⟨u', hu'⟩ := c.cell (j := 2 * j + 1) (by omega)
        exact ⟨u', by rw [World.cell?_setCell_other _ _ _ _ (by simp)]; exact hu'⟩
      obtain ⟨u', hu'⟩ := c1
      have hf' : (wr.setCell ⟨w.heap.size, 2 * j, none⟩ (.int .u8 (digI (x / 16)))).frozen? ⟨w.heap.size, 2 * j + 1, none⟩ = false := by
        rw [World.frozen?_setCell]; exact c.fr (2 * j + 1)
      have hcx' : (wr.setCell ⟨w.heap.size, 2 * j, none⟩ (.int .u8 (digI (x / 16)))).cell? ⟨b, j, none⟩ = some (.int .u8 x) :=
        (s0.setNew (a := ⟨w.heap.size, 2 * j, none⟩) (Nat.le_refl _) _).cell (a.cell j x hx)
      have hand : bits .and .u8 x 15 = x % 16 := by
        obtain ⟨m, rfl⟩ : ∃ m : Nat, x = (m : Int) := ⟨x.toNat, by omega⟩
        rw [and15 m (by omega)]
        omega
      clear hx
      go_wp2_with fail
      refine (digit_any _ _ (by omega) (by omega)).mono ?_
      rintro e w' ⟨rfl, rfl⟩
      go_wp2_with fail
      refine (digit_any _ _ (by omega) (by omega)).mono ?_
      rintro e w' ⟨rfl, rfl⟩
      go_wp2
      go_roundg (n - (j + 1))
      case measure => have := HK.out; omega
      case rel => exact ⟨j + 1, by omega, rfl, by go_num, cs⟩
    · have hjl : j = n := by omega
      subst hjl
      go_wp2
      go_ret
      exact ⟨rfl, c⟩

/-- 'zzEncode(b)': a row of the call's own that holds the digits. -/
theorem enc_any {ao : Option Addr} {b n cap : Nat} {xs : List Int} {w : World} (hn : n ≤ 1048576) (hlen : xs.length = n) (a : BArr w b (.slice ao n cap) xs) :
    Calls Try.prog 16 #[.slice ao n cap] w fun e w' => e = .returned (.slice (some ⟨w.heap.size, 0, none⟩) (2 * n) (2 * n)) ∧
      w'.ownsRow 0 5 1 (.slice (some ⟨w.heap.size, 0, none⟩) (2 * n) (2 * n)) (2 * n) ((encI xs).map (Value.int .u8)) ∧ Stp w w' := by
  refine (enc_run ao b n cap xs w hn hlen a).mono ?_
  rintro e w' ⟨rfl, cur, own, hcur, s⟩
  refine ⟨rfl, ?_, s⟩
  have hl : cur.length = 2 * n := by simpa using own.1
  have hle := encI_length xs
  have : cur = (encI xs).map (Value.int .u8) := by
    apply List.ext_getElem?
    intro j
    by_cases hj : j < 2 * n
    · rw [hcur j hj, List.getElem?_map]
    · rw [List.getElem?_eq_none (by omega), List.getElem?_eq_none (by simp; omega)]
  rw [← this]
  exact own

/-! ### zzCloneBytes -/
def Copied (w : World) (len : Nat) (zs : List Int) (k : Nat) (wr : World) : Prop :=
  ∃ cur, wr.ownsRow 0 5 1 (.slice (some ⟨w.heap.size, 0, none⟩) len len) len cur ∧ (∀ j, j < k → cur[j]? = some (.int .u8 (zs.getD j 0))) ∧ Stp w wr

theorem Copied.step {w wr : World} {len : Nat} {zs : List Int} {k : Nat} (c : Copied w len zs k wr) (hk : k < len) : Copied w len zs (k + 1) (wr.setCell ⟨w.heap.size, k, none⟩ (.int .u8 (zs.getD k 0))) := by
  obtain ⟨cur, own, hcur, s⟩ := c
  have hl : cur.length = len := by simpa using own.1
  refine ⟨_, (own.stored k (.int .u8 (zs.getD k 0))).1, fun j hj => ?_, s.setNew (a := ⟨w.heap.size, k, none⟩) (Nat.le_refl _) _⟩
  by_cases e : j = k
  · subst e
    rw [List.getElem?_set_self (by omega)]
  · rw [List.getElem?_set_ne (by omega)]
    exact hcur j (by omega)
theorem Copied.cell {w wr : World} {len : Nat} {zs : List Int} {k j : Nat} (c : Copied w len zs k wr) (hj : j < len) : ∃ u, wr.cell? ⟨w.heap.size, j, none⟩ = some u := by
  obtain ⟨cur, own, hcur, s⟩ := c
  have hl : cur.length = len := by simpa using own.1
  exact ⟨_, by rw [own.cellAt j (by omega)]; exact List.getElem?_eq_getElem (by omega)⟩
theorem Copied.fr {w wr : World} {len : Nat} {zs : List Int} {k : Nat} (c : Copied w len zs k wr) (j : Nat) : wr.frozen? ⟨w.heap.size, j, none⟩ = false := by
  obtain ⟨cur, own, hcur, s⟩ := c
  exact own.frozenAt j

set_option maxHeartbeats 400000 in
theorem clone_run (x : Addr) (len cap : Nat) (zs : List Int) (w : World) (hl : len ≤ cap) (hlen : len ≤ 1048576) (hz : zs.length = cap) (hc : ∀ i, i < zs.length → w.cell? (x.add i) = some (.int .u8 (zs.getD i 0))) :
    Calls Try.prog 15 #[.slice (some x) len cap] w fun e w' => e = .returned (.slice (some ⟨w.heap.size, 0, none⟩) len len) ∧ Copied w len zs len w' := by
  obtain ⟨i0, hi, hz0, hz1, hz2⟩ := info_parts Try.info5
  have qn := fun (w : World) (a : Option Addr) (n c n' c' : Nat) => Lib.run_eql_slice_nil (P := Try.prog) w 24 5 a n c n' c' Try.underlying24
  obtain ⟨w1, hmk, own1, gr1⟩ := run_make_full (P := Try.prog) w 0 24 5 i0 (.int .u8 0) 1 Try.underlying24 hi hz0 hz1 .i64 .i64 len (by rw [hz2]; omega) (by unfold maxLen; omega) (Nat.zero_le _)
  have st : Copied w len zs 0 w1 := ⟨_, own1, fun j hj => by omega, (Stp.refl w).grown gr1 (fun r h => by cases h)⟩
  clear own1 gr1 hi hz0 hz1 hz2
  go_enter Try.func15, Try.ntmps15
  go_wp2
  go_loopg [4] len (fun k s4 wr => ∃ j : Nat, j ≤ len ∧ k = len - j ∧ s4 = .int .i64 (j : Int) ∧ Copied w len zs j wr)
  case atStart => exact ⟨0, Nat.zero_le _, rfl, rfl, st⟩
  case round =>
    obtain ⟨j, hj, hk, rfl, c⟩ := hrel
    have HK : Hid (gk = len - j) := hk
    clear hk st
    by_cases hlt : j < len
    · obtain ⟨u, hu⟩ := c.cell hlt
      have hf := c.fr j
      have hx : wr.cell? (x.add j) = some (.int .u8 (zs.getD j 0)) := by obtain ⟨cur, _, _, s⟩ := c; exact s.cell (hc j (by omega))
      have cs := c.step hlt
      go_wp2
      go_roundg (len - (j + 1))
      case measure => have := HK.out; omega
      case rel => exact ⟨j + 1, by omega, rfl, by go_num, by simpa using cs⟩
    · have hjl : j = len := by omega
      subst hjl
      go_wp2
      go_ret
      exact ⟨rfl, c⟩

set_option maxHeartbeats 400000 in
theorem clone_nil (w : World) : Calls Try.prog 15 #[.slice none 0 0] w fun e w' => e = .returned (.slice none 0 0) ∧ w' = w := by
  have qn := fun (w : World) (a : Option Addr) (n c n' c' : Nat) => Lib.run_eql_slice_nil (P := Try.prog) w 24 5 a n c n' c' Try.underlying24
  go_enter Try.func15, Try.ntmps15
  go_wp2
  go_ret
  exact ⟨rfl, rfl⟩

/-- 'zzCloneBytes(b)'. -/
theorem clone_any {a : Option Addr} {len cap : Nat} {zs : List Int} {w : World} (hr : IsRow .u8 w a len cap zs) (hlen : len ≤ 1048576) :
    Calls Try.prog 15 #[.slice a len cap] w fun e w' => ∃ ao c, e = .returned (.slice ao len c) ∧ BArr w' w.heap.size (.slice ao len c) (zs.take len) ∧ Stp w w' ∧ (zs.take len).length = len := by
  rcases hr with ⟨rfl, rfl, rfl, rfl⟩ | ⟨x, rfl, h1, h2, h3, h4, h5⟩
  · refine (clone_nil w).mono ?_
    rintro e w' ⟨rfl, rfl⟩
    exact ⟨none, 0, rfl, ⟨fun i w' h => by simp at h, fun i x h => by simp at h, fun x h => by simp at h⟩, Stp.refl _, rfl⟩
  · refine (clone_run x len cap zs w h1 hlen h3 h4).mono ?_
    rintro e w' ⟨rfl, cur, own, hcur, s⟩
    have hl : cur.length = len := by simpa using own.1
    have htl : (zs.take len).length = len := by simp; omega
    refine ⟨_, _, rfl, ⟨fun i w'' h => bidx_row _ _ _ i w'' (by omega), fun i y hy => ?_, fun y hy => bounds_u8 (h5 y (List.mem_of_mem_take hy))⟩, s, htl⟩
    have hi : i < len := by have := (List.getElem?_eq_some_iff.1 hy).1; omega
    rw [own.cellAt i (by omega), hcur i hi]
    rw [List.getElem?_take_of_lt hi] at hy
    simp [List.getD, hy]

end Go.Proofs.Qxb6603750a
