/-
  THE GHOST IN MEMORY: its struct's block, its row of hashes, its map; and what each step of the Go text does to them. No walk here.
-/
import Derived.Test.Qxb6603426aRows
import Derived.Test.Qxb6603426aPlain
import Derived.WalkKit
import Derived.Maps.OwnSet
import Derived.Maps.AppendAt
import Derived.Deep.Draws
import Derived.WideKeyEntry
namespace Go.Proofs.Qxb6603426a
open Go.RowKit Go.Maps
open Go.ChangeMaps (setBlock heap_setBlock_same heap_setBlock_other)

theorem law29 : Keyed Try.prog 29 := int_keyed Try.underlying29
theorem zero3 (w : World) : (zeroValue 3).run Try.prog w = .ok (.int .i64 0) w := by kernel_rfl
theorem Try.info29 : (Try.prog.info? 29).map (fun i => (i.zero, i.size, i.bytes)) = some (some (.int .u64 0), 1, 8) := by kernel_rfl

/-- w' is w but for new blocks and for writes to the blocks of F. -/
structure Stp (w w' : World) (F : Nat → Prop) : Prop where
  os : w'.os = w.os
  tape : w'.tape = w.tape
  output : w'.output = w.output
  size : w.heap.size ≤ w'.heap.size
  block : ∀ i, i < w.heap.size → ¬ F i → w'.heap[i]? = w.heap[i]?

theorem Stp.refl (w : World) (F : Nat → Prop) : Stp w w F := ⟨rfl, rfl, rfl, Nat.le_refl _, fun _ _ _ => rfl⟩
theorem Stp.drewN (w : World) (n : Nat) (F : Nat → Prop) : Stp w (w.drewN n) F := ⟨rfl, rfl, rfl, Nat.le_refl _, fun _ _ _ => rfl⟩

/-- Two steps; the second may write what is new since. -/
theorem Stp.trans {a b c : World} {F G : Nat → Prop} (h : Stp a b F) (k : Stp b c G) (hG : ∀ i, G i → F i ∨ a.heap.size ≤ i) : Stp a c F :=
  ⟨k.os.trans h.os, k.tape.trans h.tape, k.output.trans h.output, Nat.le_trans h.size k.size, fun i hi hn => by
    rw [k.block i (Nat.lt_of_lt_of_le hi h.size) (fun g => by rcases hG i g with h1 | h1; exact hn h1; omega), h.block i hi hn]⟩

theorem Stp.of_grown {w w' : World} {row : Option Nat} (h : w.grownBy w' row) : Stp w w' (fun i => some i = row) := ⟨h.os, h.tape, h.output, h.size, h.block⟩
theorem Stp.alloc (w : World) (o : Obj) (F : Nat → Prop) : Stp w (w.alloc o) F := ⟨rfl, rfl, rfl, by simp, fun i hi _ => Below.heap_alloc w o i hi⟩
theorem Stp.setCell (w : World) (a : Addr) (u : Value) : Stp w (w.setCell a u) (fun i => i = a.block) := ⟨rfl, rfl, rfl, by simp [World.setCell], fun i _ h => Below.heap_setCell w a u i h⟩
theorem Stp.mono {w w' : World} {F G : Nat → Prop} (h : Stp w w' F) (hG : ∀ i, F i → G i) : Stp w w' G := ⟨h.os, h.tape, h.output, h.size, fun i hi hn => h.block i hi (fun f => hn (hG i f))⟩
theorem Stp.below {w w' : World} {F : Nat → Prop} {B : Nat} (h : Stp w w' F) (hB : B ≤ w.heap.size) (hF : ∀ i, F i → B ≤ i) : Below B w w' :=
  ⟨h.os, h.tape, h.output, h.size, fun k hk => h.block k (by omega) (fun f => by have := hF k f; omega)⟩

theorem ownsMap_tight {w : World} {k : TypeId} {R : Value → Option (DataW Unit × List MemPlace)} {b n : Nat} {D : DataW Unit} (h : w.ownsMap Try.prog k R b n D) : w.ownsMap Try.prog k R b (Maps.size D) D := by
  obtain ⟨es, clock, hb, F, _, hD⟩ := h
  exact ⟨es, clock, hb, F, by rw [hD]; simp [Maps.size, length_sorted], hD⟩

/-- THE GHOST's STRUCT IN BLOCK gb, its row of hashes, its map in block m. -/
structure GhC (w : World) (gb : Nat) (lim : Int) (v : Value) (f : Int) (m : Nat) (D : DataW Unit) (hs : List Int) : Prop where
  blk : w.heap[gb]? = some (.cells #[.int .i64 lim, v, .int .i64 f, .map (some m)] 43 (0, 0))
  row : w.ownsRow 0 29 1 v hs.length (hs.map (Value.int .u64))
  mp : w.ownsMap Try.prog 29 (plainElem Try.prog 3) m (Maps.size D) D

section
variable {w w' : World} {gb : Nat} {lim : Int} {v : Value} {f : Int} {m N : Nat} {D : DataW Unit} {hs : List Int}

theorem GhC.drewN (g : GhC w gb lim v f m D hs) (n : Nat) : GhC (w.drewN n) gb lim v f m D hs := ⟨g.blk, g.row, g.mp⟩

theorem cell_of_blk {c : Array Value} {t : TypeId} (h : w.heap[gb]? = some (.cells c t (0, 0))) (j : Nat) : w.cell? ⟨gb, j, none⟩ = c[j]? := by simp [World.cell?, h]
theorem frozen_of_blk {c : Array Value} {t : TypeId} (h : w.heap[gb]? = some (.cells c t (0, 0))) (j : Nat) : w.frozen? ⟨gb, j, none⟩ = false := by simp [World.frozen?, h]
theorem GhC.c0 (g : GhC w gb lim v f m D hs) : w.cell? ⟨gb, 0, none⟩ = some (.int .i64 lim) := cell_of_blk g.blk 0
theorem GhC.c1 (g : GhC w gb lim v f m D hs) : w.cell? ⟨gb, 1, none⟩ = some v := cell_of_blk g.blk 1
theorem GhC.c2 (g : GhC w gb lim v f m D hs) : w.cell? ⟨gb, 2, none⟩ = some (.int .i64 f) := cell_of_blk g.blk 2
theorem GhC.c3 (g : GhC w gb lim v f m D hs) : w.cell? ⟨gb, 3, none⟩ = some (.map (some m)) := cell_of_blk g.blk 3
theorem GhC.fr (g : GhC w gb lim v f m D hs) (j : Nat) : w.frozen? ⟨gb, j, none⟩ = false := frozen_of_blk g.blk j

theorem GhC.mgb (g : GhC w gb lim v f m D hs) : m ≠ gb := by
  intro e
  obtain ⟨es, clock, hb, _⟩ := g.mp
  rw [e, g.blk] at hb
  cases hb

theorem row_ne {r : Nat} {o : Obj} (row : w.ownsRow 0 29 1 v hs.length (hs.map (Value.int .u64))) (hr : v.ownBlock = some r) (hb : w.heap[r]? = some o) : ∃ cur, o = .cells cur 29 (0, 0) := by
  rcases row.2 with ⟨rfl, _⟩ | ⟨g, cap, cur, rfl, _, hg, _⟩
  · simp [Value.ownBlock] at hr
  · simp [Value.ownBlock] at hr
    subst hr
    rw [hg] at hb
    exact ⟨cur, (Option.some.inj hb).symm⟩

theorem GhC.rgb (g : GhC w gb lim v f m D hs) : v.ownBlock ≠ some gb := by
  intro e
  obtain ⟨cur, h⟩ := row_ne g.row e g.blk
  cases h

theorem GhC.rm (g : GhC w gb lim v f m D hs) : v.ownBlock ≠ some m := by
  intro e
  obtain ⟨es, clock, hb, _⟩ := g.mp
  obtain ⟨cur, h⟩ := row_ne g.row e hb
  cases h

theorem GhC.gbl (g : GhC w gb lim v f m D hs) : gb < w.heap.size := (Array.getElem?_eq_some_iff.1 g.blk).1

/-- A step that touches none of the ghost's blocks. -/
theorem ownsRow_stp {F : Nat → Prop} {xs : List Value} {n : Nat} (row : w.ownsRow 0 29 1 v n xs) (s : Stp w w' F) (hF : ∀ r, v.ownBlock = some r → ¬ F r) : w'.ownsRow 0 29 1 v n xs := by
  refine ⟨row.1, ?_⟩
  rcases row.2 with h | ⟨g, cap, cur, hv, hb, hg, r⟩
  · exact .inl h
  · refine .inr ⟨g, cap, cur, hv, hb, ?_, r⟩
    rw [s.block g (Array.getElem?_eq_some_iff.1 hg).1 (hF g (by rw [hv]; rfl))]
    exact hg

theorem ownsMap_stp {F : Nat → Prop} {k : TypeId} {R : Value → Option (DataW Unit × List MemPlace)} (mp : w.ownsMap Try.prog k R m N D) (s : Stp w w' F) (hF : ¬ F m) : w'.ownsMap Try.prog k R m N D := by
  have hlt := mp.lt
  obtain ⟨es, clock, hb, r⟩ := mp
  exact ⟨es, clock, by rw [s.block m hlt hF]; exact hb, r⟩

theorem GhC.stp {F : Nat → Prop} (g : GhC w gb lim v f m D hs) (s : Stp w w' F) (h0 : ¬ F gb) (h1 : ∀ r, v.ownBlock = some r → ¬ F r) (h2 : ¬ F m) : GhC w' gb lim v f m D hs :=
  ⟨by rw [s.block gb g.gbl h0]; exact g.blk, ownsRow_stp g.row s h1, ownsMap_stp g.mp s h2⟩

/-- The map has turned. -/
theorem GhC.turned {N : Nat} {D' : DataW Unit} (g : GhC w gb lim v f m D hs) (hg : w.grownBy w' (some m)) (hm : w'.ownsMap Try.prog 29 (plainElem Try.prog 3) m N D') : GhC w' gb lim v f m D' hs :=
  ⟨by rw [hg.block gb g.gbl (fun e => g.mgb (Option.some.inj e).symm)]; exact g.blk, g.row.kept hg (Or.inr g.rm), ownsMap_tight hm⟩

theorem blk_set {c : Array Value} {t : TypeId} (h : w.heap[gb]? = some (.cells c t (0, 0))) (j : Nat) (u : Value) : (w.setCell ⟨gb, j, none⟩ u).heap[gb]? = some (.cells (c.setIfInBounds j u) t (0, 0)) := by
  simp [World.setCell, Array.getElem?_modify, h]

/-- 'first' is written. -/
theorem GhC.setF (g : GhC w gb lim v f m D hs) (f' : Int) : GhC (w.setCell ⟨gb, 2, none⟩ (.int .i64 f')) gb lim v f' m D hs := by
  have s := Stp.setCell w ⟨gb, 2, none⟩ (.int .i64 f')
  exact ⟨by rw [blk_set g.blk]; rfl, ownsRow_stp g.row s (fun r hr e => g.rgb (by rw [hr, e])), ownsMap_stp g.mp s g.mgb⟩

/-- The row is another. -/
theorem GhC.setV {v' : Value} {hs' : List Int} (g : GhC w gb lim v f m D hs) (row : w.ownsRow 0 29 1 v' hs'.length (hs'.map (Value.int .u64))) :
    GhC (w.setCell ⟨gb, 1, none⟩ v') gb lim v' f m D hs' := by
  have s := Stp.setCell w ⟨gb, 1, none⟩ v'
  refine ⟨by rw [blk_set g.blk]; rfl, ownsRow_stp row s (fun r hr e => ?_), ownsMap_stp g.mp s g.mgb⟩
  simp only at e
  subst e
  obtain ⟨cur, h⟩ := row_ne row hr g.blk
  cases h

/-- append onto the row, and the store. -/
theorem GhC.appended {o : Obj} {w1 : World} {v' : Value} {h : Int} (g : GhC w gb lim v f m D hs) (hgrow : (w.alloc o).grownBy w1 v.ownBlock)
    (row : w1.ownsRow 0 29 1 v' (hs.length + 1) (hs.map (Value.int .u64) ++ [.int .u64 h])) :
    GhC (w1.setCell ⟨gb, 1, none⟩ v') gb lim v' f m D (hs ++ [h]) := by
  have hgb : w1.heap[gb]? = some (.cells #[.int .i64 lim, v, .int .i64 f, .map (some m)] 43 (0, 0)) := by
    rw [hgrow.block gb (by have := g.gbl; simp; omega) (fun e => g.rgb e.symm), Below.heap_alloc w o gb g.gbl]
    exact g.blk
  have hm : w1.ownsMap Try.prog 29 (plainElem Try.prog 3) m (Maps.size D) D := (g.mp.alloc o).kept hgrow (fun e => g.rm e.symm)
  have hrow : w1.ownsRow 0 29 1 v' (hs ++ [h]).length ((hs ++ [h]).map (Value.int .u64)) := by simpa using row
  have s := Stp.setCell w1 ⟨gb, 1, none⟩ v'
  refine ⟨by rw [blk_set hgb]; rfl, ownsRow_stp hrow s (fun r hr e => ?_), ownsMap_stp hm s g.mgb⟩
  simp only at e
  subst e
  obtain ⟨cur, h⟩ := row_ne hrow hr hgb
  cases h

/-- The row is not nil where it holds something. -/
theorem GhC.shape (g : GhC w gb lim v f m D hs) (hne : 0 < hs.length) : ∃ r cap, v = .slice (some ⟨r, 0, none⟩) hs.length cap ∧ hs.length ≤ cap ∧ cap ≤ maxLen := by
  rcases g.row.2 with ⟨_, h⟩ | ⟨r, cap, cur, hv, _, _, h1, h2, _⟩
  · omega
  · exact ⟨r, cap, hv, h1, h2⟩

theorem GhC.cell {r cap : Nat} (g : GhC w gb lim (.slice (some ⟨r, 0, none⟩) hs.length cap) f m D hs) {i : Nat} {x : Int} (hx : hs[i]? = some x) : w.cell? ⟨r, i, none⟩ = some (.int .u64 x) := by
  have hi : i < hs.length := (List.getElem?_eq_some_iff.1 hx).1
  rw [g.row.cellAt i (by omega)]
  simp [hx]

theorem GhC.rfr {r cap : Nat} (g : GhC w gb lim (.slice (some ⟨r, 0, none⟩) hs.length cap) f m D hs) (i : Nat) : w.frozen? ⟨r, i, none⟩ = false := g.row.frozenAt i

/-- 'hashes[k] = x'. -/
theorem GhC.stored {r cap : Nat} (g : GhC w gb lim (.slice (some ⟨r, 0, none⟩) hs.length cap) f m D hs) (k : Nat) (x : Int) :
    GhC (w.setCell ⟨r, k, none⟩ (.int .u64 x)) gb lim (.slice (some ⟨r, 0, none⟩) hs.length cap) f m D (hs.set k x) := by
  have s := Stp.setCell w ⟨r, k, none⟩ (.int .u64 x)
  refine ⟨?_, ?_, ownsMap_stp g.mp s (fun e => g.rm (by rw [e]; rfl))⟩
  · rw [s.block gb g.gbl (fun e => g.rgb (by rw [e]; rfl))]
    exact g.blk
  · have := (g.row.stored k (.int .u64 x)).1
    simpa [List.map_set] using this

/-- 'hashes[:k]'. -/
theorem GhC.taken {r cap : Nat} (g : GhC w gb lim (.slice (some ⟨r, 0, none⟩) hs.length cap) f m D hs) {k : Nat} (hk : k ≤ hs.length) :
    w.ownsRow 0 29 1 (.slice (some ⟨r, 0, none⟩) k cap) (hs.take k).length ((hs.take k).map (Value.int .u64)) := by
  have hl : (hs.take k).length = k := by simp; omega
  rcases g.row.2 with ⟨h', _⟩ | ⟨g', cap', cur, h', hb, hg, hnc, hcm, hcs, htake⟩
  · simp at h'
  · simp only [Value.slice.injEq, Option.some.injEq, Addr.mk.injEq, and_true, true_and] at h'
    obtain ⟨rfl, rfl⟩ := h'
    rw [hl]
    refine ⟨by simp; omega, .inr ⟨r, cap, cur, rfl, hb, hg, by omega, hcm, hcs, ?_⟩⟩
    rw [List.map_take, ← htake, List.take_take]
    congr 1
    omega
end

/-! ### the map's operations, as equations for the walk -/
section
variable {w : World} {gb : Nat} {lim : Int} {v : Value} {f : Int} {m : Nat} {D : DataW Unit} {hs : List Int}

theorem u64key {x : Int} (hx : (Lit.int .u64 x).wf = true) : keyOf Try.prog 29 (.int .u64 x) = some (ky x) := keyOf_int_mk Try.underlying29 hx

theorem GhC.look (g : GhC w gb lim v f m D hs) {x : Int} (hx : (Lit.int .u64 x).wf = true) : ∃ c : Int, D.atKey (ky x) (el 0) = .lit (.int .i64 c) ∧
    ∀ nq, (Instr.lookup 41 (.map (some m)) (.int .u64 x) true).run Try.prog (w.drewN nq) = .ok (.tuple #[.int .i64 c, .bool (Maps.has D (ky x))]) (w.drewN nq) := by
  have key : ∀ nq, ∃ c : Int, D.atKey (ky x) (el 0) = .lit (.int .i64 c) ∧ (Instr.lookup 41 (.map (some m)) (.int .u64 x) true).run Try.prog (w.drewN nq) = .ok (.tuple #[.int .i64 c, .bool (Maps.has D (ky x))]) (w.drewN nq) := by
    intro nq
    obtain ⟨u, ps, hrun, hu⟩ := (g.drewN nq).mp.look_ok law29 Try.underlying41 (zero3 _) (plainElem_int (H := Unit) Try.underlying3 (a := 0) (by decide)) (u64key hx)
    obtain ⟨c, rfl, hc, _⟩ := plainElem_int_inv Try.underlying3 hu
    simp only [Prod.mk.injEq] at hc
    exact ⟨c, hc.1, hrun⟩
  obtain ⟨c, hc, _⟩ := key 0
  refine ⟨c, hc, fun nq => ?_⟩
  obtain ⟨c', hc', h'⟩ := key nq
  rw [hc] at hc'
  injection hc' with hc'
  injection hc' with _ hc'
  subst hc'
  exact h'

theorem GhC.len (g : GhC w gb lim v f m D hs) : ∀ ty nq, (Builtin.len_ #[41] ty #[.map (some m)]).run Try.prog (w.drewN nq) = .ok (.int .i64 (Maps.size D)) (w.drewN nq) :=
  fun ty nq => (g.drewN nq).mp.len Try.underlying41 ty

theorem GhC.drop (g : GhC w gb lim v f m D hs) {x : Int} (hx : (Lit.int .u64 x).wf = true) (ty : TypeId) : ∃ w1, (Builtin.delete_ #[41, 29] ty #[.map (some m), .int .u64 x]).run Try.prog w = .ok (.tuple #[]) w1 ∧
    GhC w1 gb lim v f m (D.del (ky x)) hs ∧ Stp w w1 (fun i => i = m) := by
  obtain ⟨w1, hrun, hown, hturn⟩ := g.mp.drop law29 Try.underlying41 (u64key hx) ty
  exact ⟨w1, hrun, g.turned hturn.grown hown, (Stp.of_grown hturn.grown).mono (fun i h => by simpa using h)⟩

theorem GhC.store (g : GhC w gb lim v f m D hs) {x : Int} (hx : (Lit.int .u64 x).wf = true) (p : Nat) (hN : Maps.size D < maxLen) (hp : p ≤ maxLen) : ∃ w1, (Instr.mapUpdate 41 (.map (some m)) (.int .u64 x) (.int .i64 (p : Int))).run Try.prog w = .ok () w1 ∧
    GhC w1 gb lim v f m (D.put (ky x) (el p)) hs ∧ Stp w w1 (fun i => i = m) := by
  have hwf : (Lit.int .i64 (p : Int)).wf = true := WalkArith.wf_i64 (by unfold maxLen at hp; omega)
  obtain ⟨w1, hrun, hown, hturn⟩ := g.mp.store law29 Try.underlying41 hN (u64key hx) (plainElem_int (H := Unit) Try.underlying3 hwf)
  exact ⟨w1, hrun, g.turned hturn.grown hown, (Stp.of_grown hturn.grown).mono (fun i h => by simpa using h)⟩

/-- 'm[k] = v' IN TWO STEPS (the entry is found; the value is laid), at a key that is there: the first step turns nothing. -/
theorem GhC.entry (g : GhC w gb lim v f m D hs) {x : Int} (hx : (Lit.int .u64 x).wf = true) (hh : Maps.has D (ky x) = true) (p : Nat) (hN : Maps.size D < maxLen) (hp : p ≤ maxLen) :
    ∃ (v0 : Value) (st : Int) (w1 : World), (∀ nq, (Instr.mapEntry 41 (.map (some m)) (.int .u64 x)).run Try.prog (w.drewN nq) = .ok (.tuple #[v0, .int .i64 st]) (w.drewN nq)) ∧
      (∀ nq, (Instr.entryStore 41 (.map (some m)) (.int .i64 st) (.int .i64 (p : Int))).run Try.prog (w.drewN nq) = .ok () (w1.drewN nq)) ∧
      GhC w1 gb lim v f m (D.put (ky x) (el p)) hs ∧ Stp w w1 (fun i => i = m) := by
  obtain ⟨w1, hrun, hg1, hs1⟩ := g.store hx p hN hp
  have hkey := u64key hx
  have F0 := g.mp
  obtain ⟨es, clock, hb, F, _, hD⟩ := F0
  obtain ⟨s1, s2, _⟩ := F.stamped
  -- the key is there
  rcases law29.find w hkey es.toList F.keys with ⟨h1, h2⟩ | ⟨j, e0, h1, h2, h3⟩
  · exfalso
    rcases Maps.fit_look true law29 Try.underlying41 (zero3 w) hb F hkey with ⟨_, _, hat⟩ | ⟨e0, y, hm, he, _⟩
    · rw [← hD] at hat
      rw [Maps.has_false_of_atKey hat] at hh
      cases hh
    · exact h2 e0 hm he
  · have hj : es[j]? = some e0 := by simpa using h2
    have hsame : es.modify j (fun e => { e with key := .int .u64 x }) = es := by
      apply Array.ext'
      rw [Array.toList_modify, ChangeMaps.modify_eq_set _ _ _ _ h2]
      have : ({ e0 with key := .int .u64 x } : MapEntry) = e0 := by rw [← h3]
      rw [this]
      exact WideElems.set_self _ _ _ h2
    have hset : ∀ nq, setBlock (w.drewN nq) m (.map es clock) = w.drewN nq := by
      intro nq
      have e1 : (w.drewN nq).heap.setIfInBounds m (.map es clock) = (w.drewN nq).heap := by
        apply Array.ext_getElem?
        intro i
        by_cases hi : i = m
        · subst hi
          exact (heap_setBlock_same (w := w.drewN nq) hb _).trans hb.symm
        · exact heap_setBlock_other (w := w.drewN nq) hb _ hi
      unfold setBlock
      rw [e1]
    have hfind : ∀ nq, (Instr.findKey 29 (.int .u64 x) es.toList).run Try.prog (w.drewN nq) = .ok (some (j, e0.val)) (w.drewN nq) := by
      intro nq
      rcases law29.find (w.drewN nq) hkey es.toList F.keys with ⟨k1, k2⟩ | ⟨j', e', k1, k2, k3⟩
      · exact absurd h3 (k2 e0 (List.mem_of_getElem? h2))
      · have hjj : j' = j := by
          have hnd := (Maps.fit_apart law29 F)
          rcases Nat.lt_trichotomy j' j with hlt | he | hlt
          · exfalso
            have hl := (List.getElem?_eq_some_iff.1 h2).1
            have hl' := (List.getElem?_eq_some_iff.1 k2).1
            have := List.pairwise_iff_getElem.1 hnd j' j (by simpa using hl') (by simpa using hl) hlt
            apply this
            simp only [List.getElem_map]
            have a1 : es.toList[j'] = e' := (List.getElem?_eq_some_iff.1 k2).2
            have a2 : es.toList[j] = e0 := (List.getElem?_eq_some_iff.1 h2).2
            rw [a1, a2]
            obtain ⟨y1, r1⟩ := F.reads e' (List.mem_of_getElem? k2)
            obtain ⟨y2, r2⟩ := F.reads e0 (List.mem_of_getElem? h2)
            have q1 := WideElems.rd_key r1
            have q2 := WideElems.rd_key r2
            rw [k3] at q1
            rw [h3, q1] at q2
            rw [WideElems.rg_of r1, WideElems.rg_of r2]
            exact Option.some.inj q2
          · exact he
          · exfalso
            have hl := (List.getElem?_eq_some_iff.1 h2).1
            have hl' := (List.getElem?_eq_some_iff.1 k2).1
            have := List.pairwise_iff_getElem.1 hnd j j' (by simpa using hl) (by simpa using hl') hlt
            apply this
            simp only [List.getElem_map]
            have a1 : es.toList[j'] = e' := (List.getElem?_eq_some_iff.1 k2).2
            have a2 : es.toList[j] = e0 := (List.getElem?_eq_some_iff.1 h2).2
            rw [a1, a2]
            obtain ⟨y1, r1⟩ := F.reads e' (List.mem_of_getElem? k2)
            obtain ⟨y2, r2⟩ := F.reads e0 (List.mem_of_getElem? h2)
            have q1 := WideElems.rd_key r1
            have q2 := WideElems.rd_key r2
            rw [k3] at q1
            rw [h3, q1] at q2
            rw [WideElems.rg_of r1, WideElems.rg_of r2]
            exact (Option.some.inj q2).symm
        subst hjj
        rw [h2] at k2
        have := Option.some.inj k2
        subst this
        exact k1
    refine ⟨e0.val, e0.born, w1, fun nq => ?_, fun nq => ?_, hg1, hs1⟩
    · have hb' : (w.drewN nq).heap[m]? = some (.map es clock) := hb
      simp [Instr.mapEntry, run_underlying Try.underlying41, MapKept.run_getObj_map hb', law29.check (w.drewN nq) false hkey, hfind nq, hj, h3, law29.stays (w.drewN nq) hkey, hsame, MapKept.run_setObj_map _ hb', Result.andThen, goInt]
      exact hset nq
    · have hidx : es.findIdx? (fun e => ((e.born : Nat) : Int) == ((e0.born : Nat) : Int)) = some j := by
        rw [WideElems.findIdx_arr]
        exact WideElems.findIdx_born s2 h2
      have hmod : es.modify j (fun e => { e with val := .int .i64 (p : Int) }) = es.modify j (fun e' => { e' with key := .int .u64 x, val := .int .i64 (p : Int) }) := by
        apply Array.ext'
        rw [Array.toList_modify, Array.toList_modify, ChangeMaps.modify_eq_set _ _ _ _ h2, ChangeMaps.modify_eq_set _ _ _ _ h2, ← h3]
      have hw1 : w1 = setBlock w m (.map (es.modify j (fun e' => { e' with key := .int .u64 x, val := .int .i64 (p : Int) })) clock) := by
        have hr : (Instr.mapUpdate 41 (.map (some m)) (.int .u64 x) (.int .i64 (p : Int))).run Try.prog w = .ok () (setBlock w m (.map (es.modify j (fun e' => { e' with key := .int .u64 x, val := .int .i64 (p : Int) })) clock)) := by
          simp [Instr.mapUpdate, run_underlying Try.underlying41, MapKept.run_getObj_map hb, law29.check w false hkey, h1, hj, h3, law29.stays w hkey, MapKept.run_setObj_map _ hb, Result.andThen, setBlock]
        rw [hrun] at hr
        injection hr
      have hb' : (w.drewN nq).heap[m]? = some (.map es clock) := hb
      simp [Instr.entryStore, MapKept.run_getObj_map hb', asInt, asIntOf, hidx, hmod, MapKept.run_setObj_map _ hb', Result.andThen, hw1]
      rfl
end

/-- 'g.hashes = append(g.hashes, h)': THE append AT THE OPERATION, in the world behind the block of its one element. -/
theorem wpList_ghost_append {ops : Array Oper} {rest : List Oper} {o : Oper} {a : Act} {Q : Exit → Act → World → Prop} {w : World} {gb : Nat} {lim : Int} {v : Value} {f : Int} {m : Nat} {D : DataW Unit} {hs : List Int} (g : GhC w gb lim v f m D hs) (h : Int)
    (hgd : o.guard = none) (s x : Operand) (ho : o.op = .call { callee := .builtin .append, args := #[s, x], argTypes := #[36, 36] }) (hs1 : a.eval s = v) (hx : a.eval x = .slice (some ⟨w.heap.size, 0, none⟩) 1 1) (hn : hs.length < 1048576)
    (hK : ∀ r cap w', (w.alloc (.cells #[.int .u64 h] 29)).grownBy w' v.ownBlock → w'.ownsRow 0 29 1 (.slice (some ⟨r, 0, none⟩) (hs.length + 1) cap) (hs.length + 1) (hs.map (Value.int .u64) ++ [.int .u64 h]) → (v.ownBlock = some r ∨ w.heap.size ≤ r) →
      w'.cell? ⟨gb, 1, none⟩ = some v → w'.frozen? ⟨gb, 1, none⟩ = false → wpList Try.prog ops Q rest (a.put o.dst (.slice (some ⟨r, 0, none⟩) (hs.length + 1) cap)) w') :
    wpList Try.prog ops Q (o :: rest) a (w.alloc (.cells #[.int .u64 h] 29)) := by
  obtain ⟨i0, hi, hz0, hz1, hz2⟩ := info_parts Try.info29
  refine wpList_append_own_at _ hgd s x 36 ho 0 29 i0 (.int .u64 0) 1 8 Try.underlying36 hi hz0 hz1 hz2 rfl (by decide) _ _ _ hs1 (g.row.alloc _) ⟨w.heap.size, 0, none⟩ 1 1 [.int .u64 h] hx rfl (cell_one_new _ _ _) (ints_oneCell .u64 [h]) (by unfold maxLen; omega) (by omega) (Nat.zero_le _) ?_
  intro v' w2 hown' hgrow _ hloc
  obtain ⟨r, cap, rfl⟩ : ∃ r cap, v' = .slice (some ⟨r, 0, none⟩) (hs.length + 1) cap := by
    rcases hown'.2 with ⟨_, h2⟩ | ⟨r, cap, cur, h1, _⟩
    · omega
    · exact ⟨r, cap, h1⟩
  have hgb : w2.heap[gb]? = some (.cells #[.int .i64 lim, v, .int .i64 f, .map (some m)] 43 (0, 0)) := by
    rw [hgrow.block gb (by have := g.gbl; simp; omega) (fun e => g.rgb e.symm), Below.heap_alloc w _ gb g.gbl]
    exact g.blk
  refine hK r cap w2 hgrow hown' ?_ (cell_of_blk hgb 1) (frozen_of_blk hgb 1)
  rcases hloc with h1 | h1
  · exact .inl h1.symm
  · right
    simp [Value.ownBlock] at h1
    omega

end Go.Proofs.Qxb6603426a
