/-
  THE RECENCY LIST AS A WHOLE: 'Lru w F mb lim L n', and the contracts of newLRUModel, add, forget.
-/
import Derived.Test.Qxb6603426aLruAdd
namespace Go.Proofs.Qxb6603426a
open Go.RowKit Go.Maps

def Lru (w : World) (F : Nat → Prop) (mb lim : Nat) (L : List Int) (n : Nat) : Prop :=
  LAdded w F mb lim L n w ∧ L.length ≤ lim ∧ L.length ≤ n ∧ (∀ i, F i → i < w.heap.size)

theorem Lru.lt {w : World} {F : Nat → Prop} {mb lim n : Nat} {L : List Int} (g : Lru w F mb lim L n) : ∀ i, F i → i < w.heap.size := g.2.2.2

/-- A step that touches none of the list's blocks. -/
theorem Lru.frame {w w' : World} {F G : Nat → Prop} {mb lim n : Nat} {L : List Int} (g : Lru w F mb lim L n) (s : Stp w w' G) (hG : ∀ i, F i → ¬ G i) : Lru w' F mb lim L n := by
  obtain ⟨⟨vk, vp, vn, m, ks, pos, ⟨hd, tl, D, ps, ns, a, q⟩, hk⟩, h1, h2, h4⟩ := g
  have hm : F m := by
    rcases a.fm with h | h
    · exact h
    · have := a.c.mp.lt; omega
  have hvk : ∀ r, vk.ownBlock = some r → F r := fun r hr => by
    rcases a.fk r hr with h | h
    · exact h
    · have := (a.c.rk.lt r hr).2; omega
  have hvp : ∀ r, vp.ownBlock = some r → F r := fun r hr => by
    rcases a.fp r hr with h | h
    · exact h
    · have := (a.c.rp.lt r hr).2; omega
  have hvn : ∀ r, vn.ownBlock = some r → F r := fun r hr => by
    rcases a.fn r hr with h | h
    · exact h
    · have := (a.c.rn.lt r hr).2; omega
  exact ⟨⟨vk, vp, vn, m, ks, pos, ⟨hd, tl, D, ps, ns, ⟨a.c.stp s (hG _ a.fg) (fun r hr => hG r (hvk r hr)) (fun r hr => hG r (hvp r hr)) (fun r hr => hG r (hvn r hr)) (hG m hm), Stp.refl _ _, a.fg, .inl hm, fun r hr => .inl (hvk r hr), fun r hr => .inl (hvp r hr), fun r hr => .inl (hvn r hr), a.wf⟩, q⟩, hk⟩, h1, h2, fun i hi => Nat.lt_of_lt_of_le (h4 i hi) s.size⟩

/-- What a call has left, said from the new world on. -/
theorem LAdded.settle {w w' : World} {F : Nat → Prop} {mb lim n : Nat} {L : List Int} (a : LAdded w F mb lim L n w') : LAdded w' (fun i => (F i ∨ w.heap.size ≤ i) ∧ i < w'.heap.size) mb lim L n w' ∧ Stp w w' F := by
  obtain ⟨vk, vp, vn, m, ks, pos, ⟨hd, tl, D, ps, ns, g, q⟩, hk⟩ := a
  exact ⟨⟨vk, vp, vn, m, ks, pos, ⟨hd, tl, D, ps, ns, ⟨g.c, Stp.refl _ _, ⟨.inl g.fg, g.c.mbl⟩, .inl ⟨g.fm, g.c.mp.lt⟩, fun r hr => .inl ⟨g.fk r hr, (g.c.rk.lt r hr).2⟩, fun r hr => .inl ⟨g.fp r hr, (g.c.rp.lt r hr).2⟩, fun r hr => .inl ⟨g.fn r hr, (g.c.rn.lt r hr).2⟩, g.wf⟩, q⟩, hk⟩, g.s⟩

/-- '(*lruModel).add'. -/
theorem lru_add {w : World} {F : Nat → Prop} {mb lim n : Nat} {L : List Int} (g : Lru w F mb lim L n) {h : Int} (hw : (Lit.int .u64 h).wf = true) (hn : n < 1048576) :
    Calls Try.prog 14 #[.pointer (some ⟨mb, 0, none⟩), .int .u64 h] w fun e w' => e = .returned (.tuple #[]) ∧ ∃ F', Lru w' F' mb lim (gAdd lim L h) (n + 1) ∧ Stp w w' F ∧ ∀ i, F' i → F i ∨ w.heap.size ≤ i := by
  obtain ⟨⟨vk, vp, vn, m, ks, pos, l, hk⟩, h1, h2, h4⟩ := g
  refine (ladd_run w F mb lim m n vk vp vn ks pos L h w l hw hk hn h1 h2).mono ?_
  rintro e w' ⟨rfl, ha⟩
  obtain ⟨ha', hs⟩ := ha.settle
  exact ⟨rfl, _, ⟨ha', gAdd_length h1, by have := gAdd_succ lim L h; omega, fun i hi => hi.2⟩, hs, fun i hi => hi.1⟩

set_option maxHeartbeats 1000000 in
theorem lforget_run (w0 : World) (F : Nat → Prop) (mb lim m : Nat) (vk vp vn : Value) (ks : List Int) (pos : Int → Nat) (L : List Int) (h : Int) (w : World) (l : LAt w0 F mb lim vk vp vn m ks pos L w) (hw : (Lit.int .u64 h).wf = true) (hL2 : L.length ≤ 1048576) :
    Calls Try.prog 12 #[.pointer (some ⟨mb, 0, none⟩), .int .u64 h] w fun e w' => e = .returned (.bool (decide (h ∈ L))) ∧ LAt w0 F mb lim vk vp vn m ks pos (rm L h) w' := by
  have l' := l
  obtain ⟨hd, tl, D, ps, ns, g, q⟩ := l'
  obtain ⟨c, hat, hlook⟩ := g.c.look hw
  have b7 := cell_of_blk g.c.blk 7
  simp at b7
  rw [q.mp.keys h] at hlook
  by_cases hm : h ∈ L
  · rw [q.mp.vals h hm] at hat
    injection hat with hat
    injection hat with _ hat
    subst hat
    rw [decide_eq_true hm] at hlook ⊢
    clear g q
    go_enter Try.func12, Try.ntmps12
    go_wp2_with (go_at_call 20; refine (unlink_any l hm hL2).mono ?_; rintro e w' ⟨rfl, l2⟩)
    go_ret
    exact ⟨rfl, l2⟩
  · rw [decide_eq_false hm] at hlook ⊢
    clear g q
    go_enter Try.func12, Try.ntmps12
    go_wp2
    go_ret
    exact ⟨rfl, by rw [rm_of_not_mem hm]; exact l⟩

/-- '(*lruModel).forget'. -/
theorem lru_forget {w : World} {F : Nat → Prop} {mb lim n : Nat} {L : List Int} (g : Lru w F mb lim L n) {h : Int} (hw : (Lit.int .u64 h).wf = true) (hn : n ≤ 1048576) {b : Bool} (hb : Hid (decide (h ∈ L) = b)) :
    Calls Try.prog 12 #[.pointer (some ⟨mb, 0, none⟩), .int .u64 h] w fun e w' => e = .returned (.bool b) ∧ ∃ F', Lru w' F' mb lim (rm L h) n ∧ Stp w w' F ∧ ∀ i, F' i → F i ∨ w.heap.size ≤ i := by
  obtain ⟨⟨vk, vp, vn, m, ks, pos, l, hk⟩, h1, h2, h4⟩ := g
  refine (lforget_run w F mb lim m vk vp vn ks pos L h w l hw (by omega)).mono ?_
  rintro e w' ⟨rfl, ha⟩
  have hle := length_rm_le L h
  have hla : LAdded w F mb lim (rm L h) n w' := ⟨vk, vp, vn, m, ks, pos, ha, hk⟩
  obtain ⟨ha', hs⟩ := hla.settle
  exact ⟨by rw [hb.out], _, ⟨ha', by omega, by omega, fun i hi => hi.2⟩, hs, fun i hi => hi.1⟩

set_option maxHeartbeats 400000 in
theorem lnew_run (lim : Int) (w : World) :
    Calls Try.prog 10 #[.int .i64 lim] w fun e w' => e = .returned (.pointer (some ⟨w.heap.size + 1, 0, none⟩)) ∧ w' = (w.alloc (.map #[] 0)).alloc (.cells #[.int .i64 lim, .slice none 0 0, .slice none 0 0, .slice none 0 0, .int .i64 (-1), .int .i64 (-1), .int .i64 0, .map (some w.heap.size)] 46) := by
  have hmm := @run_makeMap Try.prog
  go_enter Try.func10, Try.ntmps10
  go_wp2
  go_ret
  exact ⟨rfl, rfl⟩

/-- 'newLRUModel(limit)'. -/
theorem lru_new (lim : Nat) (w : World) :
    Calls Try.prog 10 #[.int .i64 (lim : Int)] w fun e w' => ∃ mb, e = .returned (.pointer (some ⟨mb, 0, none⟩)) ∧ Lru w' (fun i => w.heap.size ≤ i ∧ i < w'.heap.size) mb lim [] 0 ∧ Stp w w' (fun _ => False) := by
  refine (lnew_run lim w).mono ?_
  rintro e w' ⟨rfl, rfl⟩
  have s1 : Stp w (w.alloc (.map #[] 0)) (fun _ => False) := Stp.alloc _ _ _
  have hsz : (w.alloc (.map #[] 0)).heap.size = w.heap.size + 1 := by simp
  refine ⟨_, rfl, ⟨⟨.slice none 0 0, .slice none 0 0, .slice none 0 0, w.heap.size, [], fun _ => 0, ⟨-1, -1, .map [], [], [], ⟨⟨?_, World.ownsRow_nil _ _ _ _, World.ownsRow_nil _ _ _ _, World.ownsRow_nil _ _ _ _, ?_, fun r hr => by simp [Value.ownBlock] at hr⟩, Stp.refl _ _, ⟨by omega, by simp⟩, .inl ⟨Nat.le_refl _, by simp; omega⟩, fun r hr => by simp [Value.ownBlock] at hr, fun r hr => by simp [Value.ownBlock] at hr, fun r hr => by simp [Value.ownBlock] at hr, fun x hx => by simp at hx⟩, lInv_empty⟩, Nat.zero_le _⟩, Nat.zero_le _, Nat.zero_le _, fun i hi => hi.2⟩, s1.trans (Stp.alloc _ _ _) (fun i h => .inl h)⟩
  · have := heap_alloc_new (w.alloc (.map #[] 0)) (.cells #[.int .i64 (lim : Int), .slice none 0 0, .slice none 0 0, .slice none 0 0, .int .i64 (-1), .int .i64 (-1), .int .i64 0, .map (some w.heap.size)] 46)
    rw [hsz] at this
    exact this
  · exact (World.ownsMap_made (H := Unit) w Try.prog 29 (plainElem Try.prog 3)).alloc _

end Go.Proofs.Qxb6603426a
