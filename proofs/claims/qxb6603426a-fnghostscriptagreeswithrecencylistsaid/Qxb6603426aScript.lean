/-
  THE WALK OF THE LAW FnGhostScriptAgreesWithRecencyList.
-/
import Derived.Test.Qxb6603426aOps
import Derived.Test.Qxb6603426aPair
namespace Go.Proofs.Qxb6603426a
open Go.RowKit Go.Maps

/-- A ghost and a recency list beside the script's array. -/
structure LT (w0 wr : World) (Fg Fl : Nat → Prop) (gb mb lim : Nat) (Lg Ll : List Int) (ng nl b : Nat) (v : Value) (len : Nat) (fs : Nat → Bool) (hs : Nat → Int) : Prop where
  g : Ghost wr Fg gb lim Lg ng
  l : Lru wr Fl mb lim Ll nl
  a : OArr wr b v len fs hs
  dis : ∀ i, Fg i → ¬ Fl i
  nbg : 0 < len → ¬ Fg b
  nbl : 0 < len → ¬ Fl b
  bel : Below w0.heap.size w0 wr
  fwg : ∀ i, Fg i → w0.heap.size ≤ i
  fwl : ∀ i, Fl i → w0.heap.size ≤ i

section
variable {w0 wr w' : World} {Fg Fl F' : Nat → Prop} {gb mb lim : Nat} {Lg Ll L' : List Int} {ng nl n' b : Nat} {v : Value} {len : Nat} {fs : Nat → Bool} {hs : Nat → Int}

theorem LT.stepG (l : LT w0 wr Fg Fl gb mb lim Lg Ll ng nl b v len fs hs) (g : Ghost w' F' gb lim L' n') (s : Stp wr w' Fg) (hF : ∀ i, F' i → Fg i ∨ wr.heap.size ≤ i) : LT w0 w' F' Fl gb mb lim L' Ll n' nl b v len fs hs := by
  refine ⟨g, l.l.frame s (fun i hl hg => l.dis i hg hl), l.a.stp s l.nbg, fun i hi hl => ?_, fun h hi => ?_, l.nbl, l.bel.trans (s.below l.bel.size l.fwg), fun i hi => ?_, l.fwl⟩
  · rcases hF i hi with h1 | h1
    · exact l.dis i h1 hl
    · have := l.l.lt i hl; omega
  · rcases hF b hi with h1 | h1
    · exact l.nbg h h1
    · have := l.a.lt h; omega
  · rcases hF i hi with h1 | h1
    · exact l.fwg i h1
    · have := l.bel.size; omega

theorem LT.stepL (l : LT w0 wr Fg Fl gb mb lim Lg Ll ng nl b v len fs hs) (g : Lru w' F' mb lim L' n') (s : Stp wr w' Fl) (hF : ∀ i, F' i → Fl i ∨ wr.heap.size ≤ i) : LT w0 w' Fg F' gb mb lim Lg L' ng n' b v len fs hs := by
  refine ⟨l.g.frame s (fun i hg hl => l.dis i hg hl), g, l.a.stp s l.nbl, fun i hg hi => ?_, l.nbg, fun h hi => ?_, l.bel.trans (s.below l.bel.size l.fwl), l.fwg, fun i hi => ?_⟩
  · rcases hF i hi with h1 | h1
    · exact l.dis i hg h1
    · have := l.g.lt i hg; omega
  · rcases hF b hi with h1 | h1
    · exact l.nbl h h1
    · have := l.a.lt h; omega
  · rcases hF i hi with h1 | h1
    · exact l.fwl i h1
    · have := l.bel.size; omega

/-- A step that writes nothing old (a draw, a new block). -/
theorem LT.quiet (l : LT w0 wr Fg Fl gb mb lim Lg Ll ng nl b v len fs hs) (s : Stp wr w' (fun _ => False)) : LT w0 w' Fg Fl gb mb lim Lg Ll ng nl b v len fs hs :=
  l.stepG (l.g.frame s (fun _ _ h => h)) (s.mono (fun _ h => h.elim)) (fun _ h => .inl h)
end

theorem Ghost.grow {w : World} {F : Nat → Prop} {gb lim n n' : Nat} {L : List Int} (g : Ghost w F gb lim L n) (h : n ≤ n') : Ghost w F gb lim L n' := by
  obtain ⟨h0, h1, h2, h3, h4⟩ := g
  refine ⟨?_, h1, by omega, h3, h4⟩
  rcases h0 with ⟨v, f, m, D, hs, pos, a, q, hh⟩ | r
  · exact .inl ⟨v, f, m, D, hs, pos, a, q, by omega⟩
  · exact .inr r

theorem Lru.grow {w : World} {F : Nat → Prop} {mb lim n n' : Nat} {L : List Int} (g : Lru w F mb lim L n) (h : n ≤ n') : Lru w F mb lim L n' := by
  obtain ⟨⟨vk, vp, vn, m, ks, pos, l, hk⟩, h1, h2, h4⟩ := g
  exact ⟨⟨vk, vp, vn, m, ks, pos, l, by omega⟩, h1, by omega, h4⟩

theorem LT.grow {w0 wr : World} {Fg Fl : Nat → Prop} {gb mb lim : Nat} {Lg Ll : List Int} {ng nl ng' nl' b : Nat} {v : Value} {len : Nat} {fs : Nat → Bool} {hs : Nat → Int} (l : LT w0 wr Fg Fl gb mb lim Lg Ll ng nl b v len fs hs) (h1 : ng ≤ ng') (h2 : nl ≤ nl') : LT w0 wr Fg Fl gb mb lim Lg Ll ng' nl' b v len fs hs :=
  ⟨l.g.grow h1, l.l.grow h2, l.a, l.dis, l.nbg, l.nbl, l.bel, l.fwg, l.fwl⟩

/-- The step's own variable: a block of two cells beside ghost and list. -/
structure OpAt (w : World) (ob : Nat) (Fg Fl : Nat → Prop) (f : Bool) (h : Int) : Prop where
  blk : w.heap[ob]? = some (.cells #[.bool f, .int .u64 h] 31 (0, 0))
  ng : ¬ Fg ob
  nl : ¬ Fl ob

section
variable {w w' : World} {ob : Nat} {Fg Fl F' : Nat → Prop} {f : Bool} {h : Int}
theorem OpAt.lt (o : OpAt w ob Fg Fl f h) : ob < w.heap.size := (Array.getElem?_eq_some_iff.1 o.blk).1
theorem OpAt.c0 (o : OpAt w ob Fg Fl f h) : w.cell? ⟨ob, 0, none⟩ = some (.bool f) := cell_of_blk o.blk 0
theorem OpAt.c1 (o : OpAt w ob Fg Fl f h) : w.cell? ⟨ob, 1, none⟩ = some (.int .u64 h) := cell_of_blk o.blk 1
theorem OpAt.stepG (o : OpAt w ob Fg Fl f h) (s : Stp w w' Fg) (hF : ∀ i, F' i → Fg i ∨ w.heap.size ≤ i) : OpAt w' ob F' Fl f h :=
  ⟨by rw [s.block ob o.lt o.ng]; exact o.blk, fun hf => by rcases hF ob hf with h1 | h1; exact o.ng h1; have := o.lt; omega, o.nl⟩
theorem OpAt.stepL (o : OpAt w ob Fg Fl f h) (s : Stp w w' Fl) (hF : ∀ i, F' i → Fl i ∨ w.heap.size ≤ i) : OpAt w' ob Fg F' f h :=
  ⟨by rw [s.block ob o.lt o.nl]; exact o.blk, o.ng, fun hf => by rcases hF ob hf with h1 | h1; exact o.nl h1; have := o.lt; omega⟩
theorem OpAt.drew (o : OpAt w ob Fg Fl f h) : OpAt w.drew ob Fg Fl f h := ⟨o.blk, o.ng, o.nl⟩
end

set_option maxRecDepth 100000 in
set_option maxHeartbeats 4000000 in
theorem script_walk (a0 : Int) (a1 : Option Addr) (len1 cap1 : Nat) (fs : Nat → Bool) (hs : Nat → Int) (w : World) (w0 : (Lit.int .i64 a0).wf = true) (w1 : IsOps w a1 len1 cap1 fs hs) :
    Calls Try.prog 3 #[.int .i64 a0, .slice a1 len1 cap1] w fun e w' => e = .returned (.bool true) ∧ Below w.heap.size w w' := by
  by_cases h1 : 1048576 < len1
  · go_enter Try.func3, Try.ntmps3
    go_wp2_with (go_at_call 7; refine (bytes7_no _ _ _ _ _ h1).mono ?_; rintro e w' ⟨rfl, rfl⟩)
    go_ret
    exact ⟨rfl, Below.refl _ _⟩
  by_cases h2 : (65536 : Int) < (len1 : Int)
  · go_enter Try.func3, Try.ntmps3
    go_wp2_with (go_at_call 7; refine (bytes7 _ _ _ _ _ (by omega)).mono ?_; rintro e w' ⟨rfl, rfl⟩)
    go_ret
    exact ⟨rfl, Below.refl _ _⟩
  by_cases h3 : a0 < 0
  · go_enter Try.func3, Try.ntmps3
    go_wp2_with (go_at_call 7; refine (bytes7 _ _ _ _ _ (by omega)).mono ?_; rintro e w' ⟨rfl, rfl⟩)
    go_ret
    exact ⟨rfl, Below.refl _ _⟩
  obtain ⟨lim, rfl⟩ : ∃ lim : Nat, a0 = (lim : Int) := ⟨a0.toNat, by omega⟩
  have hlim : lim ≤ maxLen := by have := bounds_i64 w0; unfold maxLen; omega
  clear h3
  have CL := oclone_any w1 (by omega)
  clear w1
  have hd17 : decide ((65536 : Int) < (len1 : Int)) = false := by simp; omega
  have hd19 : decide ((lim : Int) < 0) = false := by simp
  go_enter Try.func3, Try.ntmps3
  go_wp2_with fail
  refine (bytes7 _ _ _ _ _ (by omega)).mono ?_
  rintro e w' ⟨rfl, rfl⟩
  go_wp2_with fail
  refine CL.mono ?_
  rintro e wA ⟨ao, c2, rfl, arr, sA⟩
  go_wp2_with fail
  refine (ghost_new lim wA).mono ?_
  rintro e wB ⟨rfl, gh, sB, hzB⟩
  go_wp2_with fail
  refine (lru_new lim wB).mono ?_
  rintro e wC ⟨mb, rfl, lr, sC⟩
  have t0 : LT w wC (fun i => i = wA.heap.size) (fun i => wB.heap.size ≤ i ∧ i < wC.heap.size) wA.heap.size mb lim [] [] 0 0 w.heap.size (.slice ao len1 c2) len1 fs hs := by
    have q1 := sA.size
    have q2 := sB.size
    have b0 : Below w.heap.size w wC := ((sA.below (Nat.le_refl _) (fun _ h => h.elim)).trans (sB.below q1 (fun _ h => h.elim))).trans (sC.below (by omega) (fun _ h => h.elim))
    refine ⟨gh.frame sC (fun _ _ h => h), lr, (arr.stp sB (fun _ h => h)).stp sC (fun _ h => h), fun i e hl => by omega, fun h e => ?_, fun h e => ?_, b0, fun i e => by omega, fun i e => by omega⟩
    · have := arr.lt h; omega
    · have := arr.lt h; omega
  obtain ⟨gb, hgb⟩ : ∃ gb, gb = wA.heap.size := ⟨_, rfl⟩
  rw [← hgb] at t0
  rw [← hgb]
  clear gh lr arr sA sB sC hzB hgb CL
  go_wp2
  go_loopg [7] len1 (fun k s7 wr => ∃ (j : Nat) (Fg Fl : Nat → Prop) (L : List Int), j ≤ len1 ∧ k = len1 - j ∧ s7 = .int .i64 (j : Int) ∧ LT w wr Fg Fl gb mb lim L L j j w.heap.size (.slice ao len1 c2) len1 fs hs)
  case atStart => exact ⟨0, _, _, [], Nat.zero_le _, rfl, rfl, t0⟩
  case round =>
  clear t0
  obtain ⟨j, Fg, Fl, L, hj, hk, rfl, t⟩ := hrel
  have HK : Hid (gk = len1 - j) := hk
  clear hk
  by_cases hlt : j < len1
  · have hwx := t.a.wf j hlt
    have hc0 := t.a.c0 j hlt
    have hc1 := t.a.c1 j hlt
    have hix := fun w' => t.a.idx j w' hlt
    obtain ⟨f, hf⟩ : ∃ f, fs j = f := ⟨_, rfl⟩
    obtain ⟨x, hx⟩ : ∃ x, hs j = x := ⟨_, rfl⟩
    rw [hf] at hc0
    rw [hx] at hc1 hwx
    clear hf hx
    have s1 := Stp.alloc wr (.cells #[.bool f, .int .u64 x] 31) (fun _ => False)
    have t1 := t.quiet s1
    have o1 : OpAt (wr.alloc (.cells #[.bool f, .int .u64 x] 31)) wr.heap.size Fg Fl f x := ⟨heap_alloc_new wr _, fun h => by have := t.g.lt _ h; omega, fun h => by have := t.l.lt _ h; omega⟩
    cases f
    · go_wp2_with fail
      refine (ghost_add t1.g hwx hlim (by omega)).mono ?_
      rintro e w4 ⟨rfl, F4, g4, s4, hF4⟩
      have t2 := t1.stepG g4 s4 hF4
      have o2 := o1.stepG s4 hF4
      have k1 := o2.c1
      go_wp2_with fail
      refine (lru_add t2.l hwx (by omega)).mono ?_
      rintro e w5 ⟨rfl, F5, g5, s5, hF5⟩
      have t3 := t2.stepL g5 s5 hF5
      go_wp2
      go_roundg (len1 - (j + 1))
      case measure => have := HK.out; omega
      case rel => exact ⟨j + 1, F4, F5, _, by omega, rfl, by go_num, t3⟩
    · go_wp2
      obtain ⟨wa, hwa⟩ : ∃ wa, wa = wr.alloc (.cells #[.bool true, .int .u64 x] 31) := ⟨_, rfl⟩
      obtain ⟨ob, hob⟩ : ∃ ob, ob = wr.heap.size := ⟨_, rfl⟩
      rw [← hwa] at t1 o1 ⊢
      rw [← hob] at o1 ⊢
      obtain ⟨b, hb⟩ : ∃ b, decide (x ∈ L) = b := ⟨_, rfl⟩
      have HB : Hid (decide (x ∈ L) = b) := hb
      clear hb hwa hob s1 hc0 hc1 hix
      have td := t1.quiet (Stp.drewN wa 1 (fun _ => False))
      rw [← World.drew_is_drewN] at td
      have od := o1.drew
      have k1 := o1.c1
      go_region_held3 (fun w' => w'.cell? ⟨ob, 1, none⟩ = some (.int .u64 x)) (go_keep) (first
        | (go_at_call 11; refine (ghost_forget_b td.g hwx HB).mono ?_; rintro e w4 ⟨rfl, g4, s4⟩; have t4 := td.stepG g4 s4 (fun _ h => .inl h); have o4 := od.stepG s4 (fun _ h => .inl h); have hc4 := o4.c1)
        | (go_at_call 12; refine (lru_forget t4.l hwx (by omega) HB).mono ?_; rintro e w5 ⟨rfl, F5, g5, s5, hF5⟩; have t5 := t4.stepL g5 s5 hF5; have o5 := o4.stepL s5 hF5; have hc5 := o5.c1))
      all_goals
        go_wp2
        go_roundg (len1 - (j + 1))
        case measure => have := HK.out; omega
        case rel => exact ⟨j + 1, Fg, F5, _, by omega, rfl, by go_num, t5.grow (Nat.le_succ j) (Nat.le_succ j)⟩
  · have hjl : j = len1 := by omega
    subst hjl
    clear HK hj hlt
    go_wp2
    go_loopg [9] j (fun k s9 wr => ∃ (q : Nat) (Fg Fl : Nat → Prop) (L : List Int), q ≤ j ∧ k = j - q ∧ s9 = .int .i64 (q : Int) ∧ LT w wr Fg Fl gb mb lim L L j j w.heap.size (.slice ao j c2) j fs hs)
    case atStart => exact ⟨0, _, _, L, Nat.zero_le _, rfl, rfl, t⟩
    case round =>
    clear t
    obtain ⟨q, Fg, Fl, L, hq, hk, rfl, t⟩ := hrel
    have HK : Hid (gk = j - q) := hk
    clear hk
    by_cases hlt : q < j
    · have hwx := t.a.wf q hlt
      have hc1 := t.a.c1 q hlt
      have hix := fun w' => t.a.idx q w' hlt
      obtain ⟨x, hx⟩ : ∃ x, hs q = x := ⟨_, rfl⟩
      rw [hx] at hc1 hwx
      clear hx
      obtain ⟨b, hb⟩ : ∃ b, decide (x ∈ L) = b := ⟨_, rfl⟩
      have HB : Hid (decide (x ∈ L) = b) := hb
      clear hb
      go_wp2_with fail
      refine (ghost_forget_b t.g hwx HB).mono ?_
      rintro e w4 ⟨rfl, g4, s4⟩
      have t4 := t.stepG g4 s4 (fun _ h => .inl h)
      go_wp2_with fail
      refine (lru_forget t4.l hwx (by omega) HB).mono ?_
      rintro e w5 ⟨rfl, F5, g5, s5, hF5⟩
      have t5 := t4.stepL g5 s5 hF5
      go_wp2
      go_roundg (j - (q + 1))
      case measure => have := HK.out; omega
      case rel => exact ⟨q + 1, Fg, F5, _, by omega, rfl, by go_num, t5⟩
    · go_wp2
      go_ret
      exact ⟨rfl, t.bel⟩

end Go.Proofs.Qxb6603426a
