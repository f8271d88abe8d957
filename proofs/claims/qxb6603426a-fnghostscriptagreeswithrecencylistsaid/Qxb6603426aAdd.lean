/-
  THE WALK OF (*ghost).add AND (*ghost).remembers.
-/
import Derived.Test.Qxb6603426aParts
import Derived.WalkSpells
import Derived.WalkLawsBesides
import Derived.BigRegion
import Derived.Deep.QuietTactic
import Derived.Deep.LoopGhost
import Derived.Deep.DeepCutAuto
import Derived.BigQuiet
import Derived.StillTailTactics
namespace Go.Proofs.Qxb6603426a
open Go.RowKit Go.Maps

set_option maxHeartbeats 400000 in
theorem rem_run (gb r n cap m : Nat) (i x j : Int) (b : Bool) (w : World)
    (c1 : w.cell? ⟨gb, 1, none⟩ = some (.slice (some ⟨r, 0, none⟩) n cap)) (c3 : w.cell? ⟨gb, 3, none⟩ = some (.map (some m)))
    (hi0 : 0 ≤ i) (hin : i < n) (hx : w.cell? ⟨r, i.toNat, none⟩ = some (.int .u64 x))
    (hlook : ∀ nq, (Instr.lookup 41 (.map (some m)) (.int .u64 x) true).run Try.prog (w.drewN nq) = .ok (.tuple #[.int .i64 j, .bool b]) (w.drewN nq)) :
    Calls Try.prog 22 #[.pointer (some ⟨gb, 0, none⟩), .int .i64 i] w fun e w' => e = .returned (.bool (b && (j == i))) ∧ ∃ nq, w' = w.drewN nq := by
  cases b
  all_goals
    go_enter Try.func22, Try.ntmps22
    go_wp2
    go_quiet (fail)
    go_wp2
    go_ret
    exact ⟨by simp, _, rfl⟩

/-- The base's law on a region whose tail alone writes, its world spelt as a draw. -/
theorem region_tail {P : Program} {id : Nat} {Q : Exit → Act → World → Prop} {a : Act} {w : World} {l : List Oper} (n : Nat) (hm : P.follows .mixedOrders = true) (hB : Region.lexTailB .any l.toArray n = true)
    (h : wpStill P l.toArray w.drew (fun a' => wpList P l.toArray Q (l.drop n) a' w.drew) (l.take n) a) : (Code.region id l.toArray true).wp P Q a w :=
  wp_region_still_tail n hm hB h

theorem GhC.nlen {gb r n cap m : Nat} {lim f : Int} {D : DataW Unit} {hs : List Int} {w : World} (g : GhC w gb lim (.slice (some ⟨r, 0, none⟩) n cap) f m D hs) : hs.length = n := by
  rcases g.row.2 with ⟨h1, _⟩ | ⟨r, cap, cur, h1, _⟩
  · cases h1
  · simp only [Value.slice.injEq] at h1
    exact h1.2.1.symm

theorem rem_any {gb r n cap m : Nat} {lim f : Int} {D : DataW Unit} {hs : List Int} {lo : Nat} {L : List Int} {pos : Int → Nat} {w : World} (g : GhC w gb lim (.slice (some ⟨r, 0, none⟩) n cap) f m D hs) (q : GInv hs lo D L pos)
    {i : Nat} {x : Int} (hx : hs[i]? = some x) (hw : (Lit.int .u64 x).wf = true) (b : Bool) (hb : (x ∈ L ∧ pos x = i) ↔ b = true) :
    Calls Try.prog 22 #[.pointer (some ⟨gb, 0, none⟩), .int .i64 (i : Int)] w fun e w' => e = .returned (.bool b) ∧ ∃ nq, w' = w.drewN nq := by
  have hnl := g.nlen
  subst hnl
  obtain ⟨c, hc, hlook⟩ := g.look hw
  have hi : i < hs.length := (List.getElem?_eq_some_iff.1 hx).1
  refine (rem_run gb r hs.length cap m i x c _ w g.c1 g.c3 (by omega) (by omega) (by simpa using g.cell hx) hlook).mono ?_
  rintro e w' ⟨rfl, h⟩
  refine ⟨?_, h⟩
  have : (Maps.has D (ky x) && (c == (i : Int))) = b := by
    cases hv : (Maps.has D (ky x) && (c == (i : Int)))
    · cases b
      · rfl
      · obtain ⟨h1, h2⟩ := hb.2 rfl
        exact absurd h2 (q.tells_not hx hc hv x h1)
    · exact (hb.1 (q.tells hc hv)).symm
  rw [this]

/-- The ghost as it stands in the middle of a call that began in w0. -/
structure GSt (w0 w : World) (F : Nat → Prop) (gb lim : Nat) (v : Value) (f m : Nat) (D : DataW Unit) (hs : List Int) : Prop where
  c : GhC w gb lim v f m D hs
  s : Stp w0 w F
  fg : F gb
  fm : F m ∨ w0.heap.size ≤ m
  fv : ∀ r, v.ownBlock = some r → F r ∨ w0.heap.size ≤ r
  wf : ∀ x ∈ hs, (Lit.int .u64 x).wf = true
  fl : f ≤ hs.length

/-- One round of the dropping loop. -/
def Drop (w0 : World) (F : Nat → Prop) (gb lim m : Nat) (v : Value) (hs L1 : List Int) (pos : Int → Nat) (k : Nat) (wr : World) : Prop :=
  ∃ (f : Nat) (D : DataW Unit) (L : List Int), GSt w0 wr F gb lim v f m D hs ∧ GInv hs f D L pos ∧ (L = L1 ∨ (lim < L1.length ∧ L = L1.drop 1)) ∧ k = hs.length - f

/-- Behind add. -/
def Added (w0 : World) (F : Nat → Prop) (gb lim : Nat) (L : List Int) (n : Nat) (w : World) : Prop :=
  ∃ (v : Value) (f m : Nat) (D : DataW Unit) (hs : List Int) (pos : Int → Nat), GSt w0 w F gb lim v f m D hs ∧ GInv hs f D L pos ∧ hs.length ≤ n

theorem gAdd_succ (lim : Nat) (L : List Int) (h : Int) : (gAdd lim L h).length ≤ L.length + 1 := by
  have h1 := length_rm_le L h
  unfold gAdd
  split
  · omega
  · split <;> simp <;> omega

/-- One round of the moving down. -/
def Comp (w0 : World) (F : Nat → Prop) (gb lim f m n : Nat) (v : Value) (L : List Int) (k : Nat) (s4 s5 : Value) (wr : World) : Prop :=
  ∃ (i kp : Nat) (D : DataW Unit) (hs : List Int) (pos : Int → Nat), s4 = .int .i64 (kp : Int) ∧ s5 = .int .i64 (i : Int) ∧ GSt w0 wr F gb lim v f m D hs ∧ CInv hs i kp D L pos ∧ hs.length = n ∧ k = n - i

theorem GSt.drewN {w0 w : World} {F : Nat → Prop} {gb lim : Nat} {v : Value} {f m : Nat} {D : DataW Unit} {hs : List Int} (g : GSt w0 w F gb lim v f m D hs) (n : Nat) : GSt w0 (w.drewN n) F gb lim v f m D hs :=
  ⟨g.c.drewN n, g.s.trans (Stp.drewN w n F) (fun _ h => .inl h), g.fg, g.fm, g.fv, g.wf, g.fl⟩

/-- The map has been written. -/
theorem GSt.mapped {w0 w w1 : World} {F : Nat → Prop} {gb lim : Nat} {v : Value} {f m : Nat} {D D' : DataW Unit} {hs : List Int} (g : GSt w0 w F gb lim v f m D hs) (c : GhC w1 gb lim v f m D' hs) (s : Stp w w1 (fun i => i = m)) : GSt w0 w1 F gb lim v f m D' hs :=
  ⟨c, g.s.trans s (fun i h => by subst h; exact g.fm), g.fg, g.fm, g.fv, g.wf, g.fl⟩

theorem GSt.first {w0 w : World} {F : Nat → Prop} {gb lim : Nat} {v : Value} {f m : Nat} {D : DataW Unit} {hs : List Int} (g : GSt w0 w F gb lim v f m D hs) {f' : Nat} (hf : f' ≤ hs.length) : GSt w0 (w.setCell ⟨gb, 2, none⟩ (.int .i64 (f' : Int))) F gb lim v f' m D hs :=
  ⟨g.c.setF f', g.s.trans (Stp.setCell w _ _) (fun i h => by subst h; exact .inl g.fg), g.fg, g.fm, g.fv, g.wf, hf⟩

/-- The hash is at the row's end. -/
theorem GSt.pushed {w0 wu w2 : World} {F : Nat → Prop} {gb lim : Nat} {v : Value} {f m r cap : Nat} {D : DataW Unit} {hs : List Int} {h : Int} (g : GSt w0 wu F gb lim v f m D hs) (hw : (Lit.int .u64 h).wf = true)
    (hgrow : (wu.alloc (.cells #[.int .u64 h] 29)).grownBy w2 v.ownBlock) (row : w2.ownsRow 0 29 1 (.slice (some ⟨r, 0, none⟩) (hs.length + 1) cap) (hs.length + 1) (hs.map (Value.int .u64) ++ [.int .u64 h])) (hloc : v.ownBlock = some r ∨ wu.heap.size ≤ r) :
    GSt w0 (w2.setCell ⟨gb, 1, none⟩ (.slice (some ⟨r, 0, none⟩) (hs.length + 1) cap)) F gb lim (.slice (some ⟨r, 0, none⟩) (hs.length + 1) cap) f m D (hs ++ [h]) := by
  refine ⟨g.c.appended hgrow row, ?_, g.fg, g.fm, fun r' hr => ?_, fun x hx => ?_, by have := g.fl; simp; omega⟩
  · have h1 : Stp wu w2 (fun i => some i = v.ownBlock) := (Stp.alloc wu _ _).trans (Stp.of_grown hgrow) (fun i h => .inl h)
    have h2 : Stp w0 w2 F := g.s.trans h1 (fun i h => g.fv i h.symm)
    exact h2.trans (Stp.setCell w2 _ _) (fun i h => by subst h; exact .inl g.fg)
  · have e : r' = r := by simpa [Value.ownBlock] using hr.symm
    subst e
    rcases hloc with h1 | h1
    · exact g.fv _ h1
    · right; have := g.s.size; omega
  · rcases List.mem_append.1 hx with hx | hx
    · exact g.wf x hx
    · simp only [List.mem_singleton] at hx; subst hx; exact hw

/-- A hash has been moved down. -/
theorem GSt.moved {w0 wz w4 : World} {F : Nat → Prop} {gb lim : Nat} {f m r n cap kp : Nat} {D D' : DataW Unit} {hs : List Int} {x : Int} (g : GSt w0 wz F gb lim (.slice (some ⟨r, 0, none⟩) n cap) f m D hs) (hw : (Lit.int .u64 x).wf = true)
    (g4 : GhC w4 gb lim (.slice (some ⟨r, 0, none⟩) n cap) f m D' (hs.set kp x)) (s4 : Stp (wz.setCell ⟨r, kp, none⟩ (.int .u64 x)) w4 (fun i => i = m)) : GSt w0 w4 F gb lim (.slice (some ⟨r, 0, none⟩) n cap) f m D' (hs.set kp x) := by
  refine ⟨g4, ?_, g.fg, g.fm, g.fv, fun y hy => ?_, by simpa using g.fl⟩
  · have h1 : Stp w0 (wz.setCell ⟨r, kp, none⟩ (.int .u64 x)) F := g.s.trans (Stp.setCell wz _ _) (fun i h => by rw [h]; exact g.fv r rfl)
    exact h1.trans s4 (fun i h => by subst h; exact g.fm)
  · rcases List.mem_or_eq_of_mem_set hy with h | h
    · exact g.wf y h
    · subst h; exact hw

/-- The row is cut to the hashes that are remembered. -/
theorem GSt.cut {w0 w : World} {F : Nat → Prop} {gb lim : Nat} {f m r n cap k : Nat} {D : DataW Unit} {hs : List Int} (g : GSt w0 w F gb lim (.slice (some ⟨r, 0, none⟩) n cap) f m D hs) (hk : k ≤ hs.length) :
    GSt w0 ((w.setCell ⟨gb, 1, none⟩ (.slice (some ⟨r, 0, none⟩) k cap)).setCell ⟨gb, 2, none⟩ (.int .i64 0)) F gb lim (.slice (some ⟨r, 0, none⟩) k cap) 0 m D (hs.take k) := by
  have hnl := g.c.nlen
  subst hnl
  have s1 : Stp w0 (w.setCell ⟨gb, 1, none⟩ (.slice (some ⟨r, 0, none⟩) k cap)) F := g.s.trans (Stp.setCell w _ _) (fun i h => by subst h; exact .inl g.fg)
  have s2 : Stp w0 ((w.setCell ⟨gb, 1, none⟩ (.slice (some ⟨r, 0, none⟩) k cap)).setCell ⟨gb, 2, none⟩ (.int .i64 0)) F := s1.trans (Stp.setCell _ _ _) (fun i h => by subst h; exact .inl g.fg)
  exact ⟨(g.c.setV (g.c.taken hk)).setF 0, s2, g.fg, g.fm, g.fv, fun x hx => g.wf x (List.mem_of_mem_take hx), Nat.zero_le _⟩

theorem GhC.room {gb r n cap m : Nat} {lim f : Int} {D : DataW Unit} {hs : List Int} {w : World} (g : GhC w gb lim (.slice (some ⟨r, 0, none⟩) n cap) f m D hs) : n ≤ cap ∧ cap ≤ maxLen := by
  have hnl := g.nlen
  subst hnl
  rcases g.row.2 with ⟨h1, _⟩ | ⟨r', cap', cur, h1, _, _, h2, h3, _⟩
  · cases h1
  · simp only [Value.slice.injEq] at h1
    obtain ⟨_, _, rfl⟩ := h1
    exact ⟨h2, h3⟩

/-- A ghost to which nothing was ever added. -/
structure Fresh (w0 w : World) (F : Nat → Prop) (gb lim : Nat) : Prop where
  blk : w.heap[gb]? = some (.cells #[.int .i64 (lim : Int), .slice none 0 0, .int .i64 0, .map none] 43 (0, 0))
  s : Stp w0 w F
  fg : F gb

/-- Its map is made. -/
theorem Fresh.made {w0 w : World} {F : Nat → Prop} {gb lim n : Nat} (g : Fresh w0 w F gb lim) : Added w0 F gb lim [] n ((w.setCell ⟨gb, 3, none⟩ (.map (some w.heap.size))).alloc (.map #[] 0)) := by
  have hlt : gb < w.heap.size := (Array.getElem?_eq_some_iff.1 g.blk).1
  have hsz : (w.setCell ⟨gb, 3, none⟩ (.map (some w.heap.size))).heap.size = w.heap.size := by simp [World.setCell]
  refine ⟨.slice none 0 0, 0, w.heap.size, .map [], [], fun _ => 0, ⟨⟨?_, World.ownsRow_nil _ _ _ _, ?_⟩, ?_, g.fg, .inr g.s.size, fun r hr => by simp [Value.ownBlock] at hr, fun x hx => by simp at hx, Nat.le_refl _⟩, gInv_empty _ _, Nat.zero_le _⟩
  · rw [Below.heap_alloc _ _ _ (by rw [hsz]; exact hlt), blk_set g.blk]
    rfl
  · have := World.ownsMap_made (H := Unit) (w.setCell ⟨gb, 3, none⟩ (.map (some w.heap.size))) Try.prog 29 (plainElem Try.prog 3)
    rw [hsz] at this
    exact this
  · have h1 : Stp w0 (w.setCell ⟨gb, 3, none⟩ (.map (some w.heap.size))) F := g.s.trans (Stp.setCell w _ _) (fun i h => by rw [h]; exact .inl g.fg)
    exact h1.trans (Stp.alloc _ _ F) (fun i h => .inl h)

set_option maxRecDepth 100000 in
set_option maxHeartbeats 2000000 in
theorem add_run (w0 : World) (F : Nat → Prop) (gb lim n : Nat) (h : Int) (L : List Int) (w : World)
    (hstart : Added w0 F gb lim L n w ∨ (Fresh w0 w F gb lim ∧ L = [])) (hlim : 0 < lim) (hlim2 : lim ≤ maxLen) (hw : (Lit.int .u64 h).wf = true) (hn0 : n < 1048576) (hL : L.length ≤ lim) (hL2 : L.length < 1048576) :
    Calls Try.prog 21 #[.pointer (some ⟨gb, 0, none⟩), .int .u64 h] w fun e w' => e = .returned (.tuple #[]) ∧ Added w0 F gb lim (gAdd lim L h) (n + 1) w' := by
  have e0 : ((lim : Int) == 0) = false := by simp; omega
  have qT : ∀ (w : World) (r : Option Nat), (binOp .eql 41 (.map r) (.map none)).run Try.prog w = .ok (.bool r.isNone) w := fun w r => run_eql_map_nil w _ _ _ r Try.underlying41
  have hmm := @run_makeMap Try.prog
  obtain ⟨mo, c0, c3, hst⟩ : ∃ mo, w.cell? ⟨gb, 0, none⟩ = some (.int .i64 (lim : Int)) ∧ w.cell? ⟨gb, 3, none⟩ = some (.map mo) ∧ ((mo = none ∧ Fresh w0 w F gb lim ∧ L = []) ∨ (∃ m, mo = some m ∧ Added w0 F gb lim L n w)) := by
    rcases hstart with ha | ⟨hf, hl⟩
    · have ha' := ha
      obtain ⟨v, f, m, D, hs, pos, g0, _⟩ := ha'
      exact ⟨some m, g0.c.c0, g0.c.c3, .inr ⟨m, rfl, ha⟩⟩
    · exact ⟨none, cell_of_blk hf.blk 0, cell_of_blk hf.blk 3, .inl ⟨rfl, hf, hl⟩⟩
  clear hstart
  go_enter Try.func21, Try.ntmps21
  go_upto_if 16 with fail
  go_cut [] (fun wc => Added w0 F gb lim L n wc)
  case first =>
    rcases hst with ⟨rfl, hf, rfl⟩ | ⟨m, rfl, ha⟩
    · have f3 := frozen_of_blk hf.blk 3
      have hgb : gb < w.heap.size := (Array.getElem?_eq_some_iff.1 hf.blk).1
      go_wp2
      go_meet
      case rel => exact hf.made
    · go_wp2
      go_meet
      case rel => exact ha
  case rest =>
  clear c0 c3 hst
  obtain ⟨v, f, m, D, hs, pos, g0, q0, hhn⟩ := hcut
  have hn : hs.length < 1048576 := by omega
  obtain ⟨cap, ao, rfl⟩ : ∃ cap ao, v = .slice ao hs.length cap := by
    rcases g0.c.row.2 with ⟨h1, h2⟩ | ⟨r, cap, cur, h1, _⟩
    · exact ⟨0, none, by rw [h1, h2]⟩
    · exact ⟨cap, _, h1⟩
  have c0 := g0.c.c0
  have c1 := g0.c.c1
  have c3 := g0.c.c3
  obtain ⟨wu, hupd, g1, s1⟩ := (g0.c.drewN 1).store hw hs.length (by rw [q0.mp.size]; unfold maxLen; omega) (by unfold maxLen; omega)
  have hupd' : (Instr.mapUpdate 41 (.map (some m)) (.int .u64 h) (.int .i64 (hs.length : Int))).run Try.prog wc.drew = .ok () wu := hupd
  have G1 := (g0.drewN 1).mapped g1 s1
  clear hupd
  have d1 := g1.c1
  have d1f := g1.fr 1
  go_wp2
  refine region_tail 10 (by kernel_rfl) (by kernel_rfl) ?_
  simp only [List.take_succ_cons, List.take_zero, List.drop_succ_cons, List.drop_zero]
  repeat still_step
  refine wpStill_nil ?_
  go_wp2_with (at_builtin; refine wpList_ghost_append g1 h rfl (.tmp 35) (.tmp 37) rfl rfl rfl hn ?_; intro r cap2 w2 hgrow hown2 hloc k1 k2)
  have G2 := G1.pushed hw hgrow hown2 hloc
  have Q2 := q0.push h g0.fl
  have hL1 := length_rm_le L h
  have hg1 : ∀ L', (L' = rm L h ++ [h] ∨ (lim < (rm L h ++ [h]).length ∧ L' = (rm L h ++ [h]).drop 1)) → ¬ (lim < L'.length) → L' = gAdd lim L h := by
    intro L' hL' hnl
    unfold gAdd
    rw [if_neg (by omega)]
    rcases hL' with rfl | ⟨h1, rfl⟩
    · rw [if_neg hnl]
    · rw [if_pos h1]
  clear G1 g1 s1 hupd' d1 d1f hgrow hown2 hloc k1 k2 c0 c1 c3 g0 q0 e0 qT
  go_loopg [] (hs.length + 1 - f) (fun k wr => Drop w0 F gb lim m (.slice (some ⟨r, 0, none⟩) (hs.length + 1) cap2) (hs ++ [h]) (rm L h ++ [h]) (upd pos h hs.length) k wr)
  case atStart => exact ⟨f, _, _, G2, Q2, .inl rfl, by simp⟩
  case round =>
  obtain ⟨f', D', L', g, q, hL', hk⟩ := hrel
  have HK : Hid (gk = (hs ++ [h]).length - f') := hk
  clear hk G2 Q2
  have c0 := g.c.c0
  have c1 := g.c.c1
  have c2 := g.c.c2
  have c3 := g.c.c3
  have f2 := g.c.fr 2
  have hlen : ∀ ty nq, (Builtin.len_ #[41] ty #[.map (some m)]).run Try.prog (wr.drewN nq) = .ok (.int .i64 (L'.length : Int)) (wr.drewN nq) := by
    have := g.c.len
    rw [q.mp.size] at this
    exact this
  have hn2 : (hs ++ [h]).length = hs.length + 1 := by simp
  by_cases hlt : (lim : Int) < (L'.length : Int)
  · -- one more than the limit: the first place is looked at
    have hf := q.first_lt (by omega)
    obtain ⟨x, hx⟩ : ∃ x, (hs ++ [h])[f']? = some x := ⟨_, List.getElem?_eq_getElem hf⟩
    have HX : Hid ((hs ++ [h])[f']? = some x) := hx
    have hwx := g.wf x (List.mem_of_getElem? hx)
    have hcx : wr.cell? ⟨r, f', none⟩ = some (.int .u64 x) := by
      have := g.c
      rw [← hn2] at this
      exact this.cell hx
    have hL1' : L' = rm L h ++ [h] ∧ lim < (rm L h ++ [h]).length := by
      rcases hL' with rfl | ⟨h1, rfl⟩
      · exact ⟨rfl, by omega⟩
      · simp at hlt; omega
    have HL : Hid (L' = rm L h ++ [h] ∧ lim < (rm L h ++ [h]).length) := hL1'
    have HN : Hid ((hs ++ [h]).length = hs.length + 1) := hn2
    have hfi : (f' : Int) < (hs.length + 1 : Int) := by omega
    clear hx hL1' hL' hn2 hg1
    by_cases hhit : x ∈ L' ∧ upd pos h hs.length x = f'
    · have HH : Hid (x ∈ L' ∧ upd pos h hs.length x = f') := hhit
      clear hhit
      go_wp2
      go_quiet (fail)
      go_wp2_with (go_at_call 22; refine (rem_any (g.c.drewN nq) q HX.out hwx true ⟨fun _ => rfl, fun _ => HH.out⟩).mono ?_; rintro e w' ⟨rfl, nq2, rfl⟩)
      obtain ⟨w3, hdel, g3, s3⟩ := (g.c.drewN (nq + nq2 + 1)).drop hwx 0
      have G3 := (g.drewN (nq + nq2 + 1)).mapped g3 s3
      have e2 := g3.c2
      have e2f := g3.fr 2
      refine region_tail 14 (by kernel_rfl) (by kernel_rfl) ?_
      simp only [List.take_succ_cons, List.take_zero, List.drop_succ_cons, List.drop_zero, World.drew_drewN]
      repeat still_step
      refine wpStill_nil ?_
      go_wp2
      obtain ⟨hxL, hxp⟩ := HH.out
      obtain ⟨L3, hL3, q3⟩ := q.hit hxL hxp
      have G4 := G3.first (f' := f' + 1) (by rw [HN.out]; omega)
      have e4 : ((f' + 1 : Nat) : Int) = (f' : Int) + 1 := rfl
      rw [e4] at G4
      go_roundg (hs.length + 1 - (f' + 1))
      case measure => have := HK.out; rw [HN.out] at this; omega
      case rel => exact ⟨f' + 1, _, L3, G4, q3, .inr ⟨HL.out.2, by rw [← HL.out.1, hL3]; rfl⟩, by rw [HN.out]⟩
    · have HH : Hid (¬ (x ∈ L' ∧ upd pos h hs.length x = f')) := hhit
      clear hhit
      go_wp2
      go_quiet (fail)
      go_wp2_with (go_at_call 22; refine (rem_any (g.c.drewN nq) q HX.out hwx false ⟨fun hc => absurd hc HH.out, fun hc => by cases hc⟩).mono ?_; rintro e w' ⟨rfl, nq2, rfl⟩)
      have q3 := q.miss (fun y hy hp => by
        have h1 := (q.pl y hy).2
        rw [hp, HX.out] at h1
        have h2 := Option.some.inj h1
        subst h2
        exact HH.out ⟨hy, hp⟩)
      have G4 := (g.drewN (nq + nq2)).first (f' := f' + 1) (by rw [HN.out]; omega)
      have e4 : ((f' + 1 : Nat) : Int) = (f' : Int) + 1 := rfl
      rw [e4] at G4
      go_roundg (hs.length + 1 - (f' + 1))
      case measure => have := HK.out; rw [HN.out] at this; omega
      case rel => exact ⟨f' + 1, _, L', G4, q3, .inl HL.out.1, by rw [HN.out]⟩
  · -- no more than the limit
    have hLg := hg1 L' hL' (by omega)
    clear hg1 hL'
    subst hLg
    have hll : (gAdd lim L h).length ≤ lim := by omega
    have HN : Hid ((hs ++ [h]).length = hs.length + 1) := hn2
    clear hn2
    unfold maxLen at hlim2
    have hd1 : decide (lim < (gAdd lim L h).length) = false := by simp; omega
    go_wp2
    go_quiet (fail)
    revert nq
    intro na
    go_wp2
    by_cases hbig : (lim : Int) < (hs.length + 1 : Int) - lim
    · go_quiet (fail)
      go_wp2
      have G5 := g.drewN (na + nq)
      have Q5 := q.start g.fl
      have h5 := HN.out
      have h6 := q.mp.size
      have h7 := g.fl
      rw [h5] at h7
      have hgl : (gAdd lim L h).length ≤ L.length + 1 := gAdd_succ lim L h
      clear c0 c1 c2 c3 f2 hlen g q HN HK hlt hll hd1
      go_loopg [4, 5] (hs.length + 1 - f') (fun k s4 s5 wr => Comp w0 F gb lim f' m (hs.length + 1) (.slice (some ⟨r, 0, none⟩) (hs.length + 1) cap2) (gAdd lim L h) k s4 s5 wr)
      case atStart => exact ⟨f', 0, D', hs ++ [h], _, rfl, rfl, G5, Q5, h5, rfl⟩
      case round =>
      clear G5 Q5 h5 h6
      obtain ⟨i, kp, D2, hs2, pos2, rfl, rfl, g, c, hn2, hk⟩ := hrel
      have HK : Hid (gk = hs.length + 1 - i) := hk
      clear hk
      have hki := c.ki
      have hil := c.il
      have c0 := g.c.c0
      have c1 := g.c.c1
      have c2 := g.c.c2
      have c3 := g.c.c3
      have f1 := g.c.fr 1
      have f2 := g.c.fr 2
      by_cases hi : i < hs.length + 1
      · obtain ⟨x, hx⟩ : ∃ x, hs2[i]? = some x := ⟨_, List.getElem?_eq_getElem (by omega)⟩
        have hwx := g.wf x (List.mem_of_getElem? hx)
        have hcx : wr.cell? ⟨r, i, none⟩ = some (.int .u64 x) := by
          have := g.c
          rw [← hn2] at this
          exact this.cell hx
        have HX : Hid (hs2[i]? = some x) := hx
        have HN2 : Hid (hs2.length = hs.length + 1) := hn2
        clear hx hn2
        by_cases hhit : x ∈ gAdd lim L h ∧ pos2 x = i
        · have HH : Hid (x ∈ gAdd lim L h ∧ pos2 x = i) := hhit
          clear hhit
          have hkn : kp < hs2.length := by rw [HN2.out]; omega
          obtain ⟨y, hy⟩ : ∃ y, hs2[kp]? = some y := ⟨_, List.getElem?_eq_getElem hkn⟩
          have HY : Hid (hs2[kp]? = some y) := hy
          clear hy hkn
          go_wp2_with (go_at_call 22; refine (rem_any g.c c.g HX.out hwx true ⟨fun _ => rfl, fun _ => HH.out⟩).mono ?_; rintro e wz ⟨rfl, nq2, hwz⟩; have gz := g.drewN nq2; rw [← hwz] at gz; have z1 := gz.c.c1; have z3 := gz.c.c3; have zx : wz.cell? ⟨r, i, none⟩ = some (.int .u64 x) := (by rw [hwz]; exact hcx); clear hwz)
          have gz' := gz.c
          rw [← HN2.out] at gz'
          have zy := gz'.cell HY.out
          have zf := gz'.rfr kp
          have gs := gz'.stored kp x
          rw [HN2.out] at gs
          obtain ⟨v0, st, w4, hent, hsto, g4, s4⟩ := gs.entry hwx (by rw [c.g.mp.keys x]; exact decide_eq_true HH.out.1) kp (by rw [c.g.mp.size]; unfold maxLen; omega) (by unfold maxLen; omega)
          have hent' := hent 1
          have hsto' := hsto 1
          clear hent hsto gz'
          rw [← World.drew_is_drewN] at hent' hsto'
          go_region
          go_wp2
          have G6 := (gz.moved hwx g4 s4).drewN 1
          have C6 := c.hit HH.out.1 HH.out.2
          go_roundg (hs.length + 1 - (i + 1))
          case measure => have := HK.out; omega
          case rel => exact ⟨i + 1, kp + 1, _, hs2.set kp x, _, by go_num, by go_num, G6, C6, by rw [List.length_set]; exact HN2.out, rfl⟩
        · have HH : Hid (¬ (x ∈ gAdd lim L h ∧ pos2 x = i)) := hhit
          clear hhit
          go_wp2_with (go_at_call 22; refine (rem_any g.c c.g HX.out hwx false ⟨fun hc => absurd hc HH.out, fun hc => by cases hc⟩).mono ?_; rintro e w' ⟨rfl, nq2, rfl⟩)
          have C6 := c.miss (by rw [HN2.out]; omega) (fun y hy hp => by
            have h1 := (c.g.pl y hy).2
            rw [hp, HX.out] at h1
            have h2 := Option.some.inj h1
            subst h2
            exact HH.out ⟨hy, hp⟩)
          go_roundg (hs.length + 1 - (i + 1))
          case measure => have := HK.out; omega
          case rel => exact ⟨i + 1, kp, _, hs2, _, rfl, by go_num, g.drewN _, C6, HN2.out, rfl⟩
      · obtain ⟨hr1, hr2⟩ := g.c.room
        unfold maxLen at hr2
        have HN2 : Hid (hs2.length = hs.length + 1) := hn2
        have hkc : (kp : Int) ≤ (cap2 : Int) := by omega
        clear hn2
        go_wp2
        obtain ⟨hkl, Q7⟩ := c.fin (by rw [HN2.out]; omega)
        have G7 := g.cut (k := kp) (by rw [HN2.out]; omega)
        go_end0
        exact ⟨rfl, _, 0, m, D2, hs2.take kp, _, G7, Q7, by rw [List.length_take]; omega⟩
    · go_quiet (fail)
      go_wp2
      go_end0
      exact ⟨rfl, _, f', m, D', hs ++ [h], _, g.drewN _, q, by rw [HN.out]; omega⟩
end Go.Proofs.Qxb6603426a
