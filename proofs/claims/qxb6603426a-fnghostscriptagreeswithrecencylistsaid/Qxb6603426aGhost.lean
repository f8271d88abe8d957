/-
  THE GHOST AS A WHOLE: 'Ghost w F gb lim L n': the struct in block gb remembers just the hashes of L, oldest first; F: its blocks; and the contracts of ZZNewGhost, ZZGhostAdd, ZZGhostForget.
-/
import Derived.Test.Qxb6603426aAdd
namespace Go.Proofs.Qxb6603426a
open Go.RowKit Go.Maps

def Ghost (w : World) (F : Nat → Prop) (gb lim : Nat) (L : List Int) (n : Nat) : Prop :=
  (Added w F gb lim L n w ∨ (Fresh w w F gb lim ∧ L = [])) ∧ L.length ≤ lim ∧ L.length ≤ n ∧ L.Nodup ∧ (∀ i, F i → i < w.heap.size)

theorem Ghost.nodup {w : World} {F : Nat → Prop} {gb lim n : Nat} {L : List Int} (g : Ghost w F gb lim L n) : L.Nodup := g.2.2.2.1
theorem Ghost.lt {w : World} {F : Nat → Prop} {gb lim n : Nat} {L : List Int} (g : Ghost w F gb lim L n) : ∀ i, F i → i < w.heap.size := g.2.2.2.2

/-- A step that touches none of the ghost's blocks. -/
theorem Ghost.frame {w w' : World} {F G : Nat → Prop} {gb lim n : Nat} {L : List Int} (g : Ghost w F gb lim L n) (s : Stp w w' G) (hG : ∀ i, F i → ¬ G i) : Ghost w' F gb lim L n := by
  obtain ⟨h0, h1, h2, h3, h4⟩ := g
  refine ⟨?_, h1, h2, h3, fun i hi => Nat.lt_of_lt_of_le (h4 i hi) s.size⟩
  rcases h0 with ⟨v, f, m, D, hs, pos, a, q, hl⟩ | ⟨a, rfl⟩
  · left
    have hm : F m := by
      rcases a.fm with h | h
      · exact h
      · have := a.c.mp.lt; omega
    have hv : ∀ r, v.ownBlock = some r → F r := fun r hr => by
      rcases a.fv r hr with h | h
      · exact h
      · have := (a.c.row.lt r hr).2; omega
    exact ⟨v, f, m, D, hs, pos, ⟨a.c.stp s (hG _ a.fg) (fun r hr => hG r (hv r hr)) (hG m hm), Stp.refl _ _, a.fg, .inl hm, fun r hr => .inl (hv r hr), a.wf, a.fl⟩, q, hl⟩
  · right
    have hlt : gb < w.heap.size := (Array.getElem?_eq_some_iff.1 a.blk).1
    exact ⟨⟨by rw [s.block gb hlt (hG _ a.fg)]; exact a.blk, Stp.refl _ _, a.fg⟩, rfl⟩

/-- What add has left, said from the new world on. -/
theorem Added.settle {w w' : World} {F : Nat → Prop} {gb lim n : Nat} {L : List Int} (a : Added w F gb lim L n w') : Added w' (fun i => (F i ∨ w.heap.size ≤ i) ∧ i < w'.heap.size) gb lim L n w' ∧ Stp w w' F := by
  obtain ⟨v, f, m, D, hs, pos, g, q, hl⟩ := a
  exact ⟨⟨v, f, m, D, hs, pos, ⟨g.c, Stp.refl _ _, ⟨.inl g.fg, g.c.gbl⟩, .inl ⟨g.fm, g.c.mp.lt⟩, fun r hr => .inl ⟨g.fv r hr, (g.c.row.lt r hr).2⟩, g.wf, g.fl⟩, q, hl⟩, g.s⟩

set_option maxHeartbeats 400000 in
theorem new_run (lim : Int) (w : World) :
    Calls Try.prog 9 #[.int .i64 lim] w fun e w' => e = .returned (.pointer (some ⟨w.heap.size, 0, none⟩)) ∧ w' = w.alloc (.cells #[.int .i64 lim, .slice none 0 0, .int .i64 0, .map none] 43) := by
  go_enter Try.func9, Try.ntmps9
  go_wp2
  go_ret
  exact ⟨rfl, rfl⟩

/-- 'ZZNewGhost(limit)'. -/
theorem ghost_new (lim : Nat) (w : World) :
    Calls Try.prog 9 #[.int .i64 (lim : Int)] w fun e w' => e = .returned (.pointer (some ⟨w.heap.size, 0, none⟩)) ∧ Ghost w' (fun i => i = w.heap.size) w.heap.size lim [] 0 ∧ Stp w w' (fun _ => False) ∧ w'.heap.size = w.heap.size + 1 := by
  refine (new_run lim w).mono ?_
  rintro e w' ⟨rfl, rfl⟩
  refine ⟨rfl, ⟨.inr ⟨⟨?_, Stp.refl _ _, rfl⟩, rfl⟩, Nat.zero_le _, Nat.zero_le _, List.nodup_nil, fun i hi => by subst hi; simp⟩, Stp.alloc _ _ _, by simp⟩
  exact heap_alloc_new w _

set_option maxHeartbeats 400000 in
theorem add_zero (gb : Nat) (h : Int) (w : World) (c0 : w.cell? ⟨gb, 0, none⟩ = some (.int .i64 0)) :
    Calls Try.prog 21 #[.pointer (some ⟨gb, 0, none⟩), .int .u64 h] w fun e w' => e = .returned (.tuple #[]) ∧ w' = w := by
  go_enter Try.func21, Try.ntmps21
  go_wp2
  exact bodyPost_ret (v := .tuple #[]) (by simp [results, Try.results21, go_sem]) rfl ⟨rfl, rfl⟩

/-- '(*ghost).add'. -/
theorem ghost_add21 {w : World} {F : Nat → Prop} {gb lim n : Nat} {L : List Int} (g : Ghost w F gb lim L n) {h : Int} (hw : (Lit.int .u64 h).wf = true) (hlim : lim ≤ maxLen) (hn : n < 1048576) :
    Calls Try.prog 21 #[.pointer (some ⟨gb, 0, none⟩), .int .u64 h] w fun e w' => e = .returned (.tuple #[]) ∧ ∃ F', Ghost w' F' gb lim (gAdd lim L h) (n + 1) ∧ Stp w w' F ∧ ∀ i, F' i → F i ∨ w.heap.size ≤ i := by
  have g' := g
  obtain ⟨h0, h1, h2, h3, h4⟩ := g'
  by_cases hl : lim = 0
  · subst hl
    have c0 : w.cell? ⟨gb, 0, none⟩ = some (.int .i64 0) := by
      rcases h0 with ⟨v, f, m, D, hs, pos, a, q, _⟩ | ⟨a, _⟩
      · exact a.c.c0
      · exact cell_of_blk a.blk 0
    refine (add_zero gb h w c0).mono ?_
    rintro e w' ⟨rfl, rfl⟩
    refine ⟨rfl, F, ?_, Stp.refl _ _, fun i hi => .inl hi⟩
    have e1 : gAdd 0 L h = L := by simp [gAdd]
    rw [e1]
    refine ⟨?_, h1, by omega, h3, h4⟩
    rcases h0 with ⟨v, f, m, D, hs, pos, a, q, hh⟩ | r
    · exact .inl ⟨v, f, m, D, hs, pos, a, q, by omega⟩
    · exact .inr r
  · refine (add_run w F gb lim n h L w h0 (by omega) hlim hw hn h1 (by omega)).mono ?_
    rintro e w' ⟨rfl, ha⟩
    obtain ⟨ha', hs⟩ := ha.settle
    exact ⟨rfl, _, ⟨.inl ha', gAdd_length h1, by have := gAdd_succ lim L h; omega, gAdd_nodup h3, fun i hi => hi.2⟩, hs, fun i hi => hi.1⟩

set_option maxHeartbeats 400000 in
/-- 'ZZGhostAdd(g, h)'. -/
theorem ghost_add {w : World} {F : Nat → Prop} {gb lim n : Nat} {L : List Int} (g : Ghost w F gb lim L n) {h : Int} (hw : (Lit.int .u64 h).wf = true) (hlim : lim ≤ maxLen) (hn : n < 1048576) :
    Calls Try.prog 13 #[.pointer (some ⟨gb, 0, none⟩), .int .u64 h] w fun e w' => e = .returned (.tuple #[]) ∧ ∃ F', Ghost w' F' gb lim (gAdd lim L h) (n + 1) ∧ Stp w w' F ∧ ∀ i, F' i → F i ∨ w.heap.size ≤ i := by
  go_enter Try.func13, Try.ntmps13
  go_wp2_with (go_at_call 21; refine (ghost_add21 g hw hlim hn).mono ?_; rintro e w' ⟨rfl, hr⟩)
  go_end0
  exact ⟨rfl, hr⟩

set_option maxHeartbeats 400000 in
theorem forget_run (gb : Nat) (mo : Option Nat) (x j : Int) (b : Bool) (w w1 : World) (c3 : w.cell? ⟨gb, 3, none⟩ = some (.map mo))
    (hlook : (Instr.lookup 41 (.map mo) (.int .u64 x) true).run Try.prog w = .ok (.tuple #[.int .i64 j, .bool b]) w)
    (hdel : (Builtin.delete_ #[41, 29] 0 #[.map mo, .int .u64 x]).run Try.prog w = .ok (.tuple #[]) w1) :
    Calls Try.prog 19 #[.pointer (some ⟨gb, 0, none⟩), .int .u64 x] w fun e w' => e = .returned (.bool b) ∧ w' = w1 := by
  go_enter Try.func19, Try.ntmps19
  go_wp2
  go_ret
  exact ⟨rfl, rfl⟩

/-- '(*ghost).forget'. -/
theorem ghost_forget19 {w : World} {F : Nat → Prop} {gb lim n : Nat} {L : List Int} (g : Ghost w F gb lim L n) {x : Int} (hw : (Lit.int .u64 x).wf = true) :
    Calls Try.prog 19 #[.pointer (some ⟨gb, 0, none⟩), .int .u64 x] w fun e w' => e = .returned (.bool (decide (x ∈ L))) ∧ Ghost w' F gb lim (rm L x) n ∧ Stp w w' F := by
  obtain ⟨h0, h1, h2, h3, h4⟩ := g
  have hle := length_rm_le L x
  rcases h0 with ⟨v, f, m, D, hs, pos, a, q, hl⟩ | ⟨a, rfl⟩
  · obtain ⟨c, _, hlook⟩ := a.c.look hw
    obtain ⟨w1, hdel, g1, s1⟩ := a.c.drop hw 0
    have hlook' := hlook 0
    rw [World.drewN_zero] at hlook'
    refine (forget_run gb (some m) x c _ w w1 a.c.c3 hlook' hdel).mono ?_
    rintro e w' ⟨rfl, rfl⟩
    have hm : F m := by
      rcases a.fm with h | h
      · exact h
      · have := a.c.mp.lt; omega
    have hv : ∀ r, v.ownBlock = some r → F r := fun r hr => by
      rcases a.fv r hr with h | h
      · exact h
      · have := (a.c.row.lt r hr).2; omega
    refine ⟨by rw [q.mp.keys x], ⟨.inl ⟨v, f, m, _, hs, pos, ⟨g1, Stp.refl _ _, a.fg, .inl hm, fun r hr => .inl (hv r hr), a.wf, a.fl⟩, q.forget x, hl⟩, by omega, by omega, nodup_rm x h3, fun i hi => Nat.lt_of_lt_of_le (h4 i hi) s1.size⟩, s1.mono (fun i h => by rw [h]; exact hm)⟩
  · refine (forget_run gb none x 0 false w w (cell_of_blk a.blk 3) (Maps.look_nil true law29 Try.underlying41 (zero3 w) (u64key hw)) (Maps.drop_nil law29 Try.underlying41 (u64key hw) 0)).mono ?_
    rintro e w' ⟨rfl, rfl⟩
    exact ⟨by simp, ⟨.inr ⟨a, rfl⟩, by omega, by omega, nodup_rm x h3, h4⟩, Stp.refl _ _⟩

set_option maxHeartbeats 400000 in
/-- 'ZZGhostForget(g, h)'. -/
theorem ghost_forget {w : World} {F : Nat → Prop} {gb lim n : Nat} {L : List Int} (g : Ghost w F gb lim L n) {x : Int} (hw : (Lit.int .u64 x).wf = true) :
    Calls Try.prog 11 #[.pointer (some ⟨gb, 0, none⟩), .int .u64 x] w fun e w' => e = .returned (.bool (decide (x ∈ L))) ∧ Ghost w' F gb lim (rm L x) n ∧ Stp w w' F := by
  obtain ⟨b, hb⟩ : ∃ b, decide (x ∈ L) = b := ⟨_, rfl⟩
  rw [hb]
  have h19 := ghost_forget19 g hw
  rw [hb] at h19
  clear hb
  go_enter Try.func11, Try.ntmps11
  go_wp2_with (go_at_call 19; refine h19.mono ?_; rintro e w' ⟨rfl, hr1, hr2⟩)
  go_ret
  exact ⟨rfl, hr1, hr2⟩

end Go.Proofs.Qxb6603426a
