/-
  THE WALK OF THE LAW FnGhostAddingNewestAgainChangesNothing.
-/
import Derived.Test.Qxb6603426aPair
namespace Go.Proofs.Qxb6603426a
open Go.RowKit Go.Maps

set_option maxRecDepth 100000 in
set_option maxHeartbeats 4000000 in
theorem again_walk (a0 : Int) (a1 : Option Addr) (len1 cap1 : Nat) (z1 : List Int) (a2 : Int) (a3 : Option Addr) (len3 cap3 : Nat) (z3 : List Int) (w : World) (w0 : (Lit.int .i64 a0).wf = true) (w1 : IsRow .u64 w a1 len1 cap1 z1) (whx : (Lit.int .u64 a2).wf = true) (w3 : IsRow .u64 w a3 len3 cap3 z3) :
    Calls Try.prog 5 #[.int .i64 a0, .slice a1 len1 cap1, .int .u64 a2, .slice a3 len3 cap3] w fun e w' => e = .returned (.bool true) ∧ Below w.heap.size w w' := by
  obtain ⟨hlm, hxl⟩ := w1.len_le
  obtain ⟨hlm3, hyl⟩ := w3.len_le
  by_cases h1 : ¬ len1 + len3 ≤ 1048576
  · go_enter Try.func5, Try.ntmps5
    go_wp2_with (go_at_call 17; refine (bytes17_no _ _ _ _ _ _ _ _ _ h1 hlm hlm3).mono ?_; rintro e w' ⟨rfl, rfl⟩)
    go_ret
    exact ⟨rfl, Below.refl _ _⟩
  have h1' : len1 + len3 ≤ 1048576 := by omega
  clear h1
  by_cases h2 : (131072 : Int) < (len1 : Int)
  · go_enter Try.func5, Try.ntmps5
    go_wp2_with (go_at_call 17; refine (bytes17 _ _ _ _ _ _ _ _ _ h1').mono ?_; rintro e w' ⟨rfl, rfl⟩)
    go_ret
    exact ⟨rfl, Below.refl _ _⟩
  by_cases h4 : (131072 : Int) - (len1 : Int) < (len3 : Int)
  · go_enter Try.func5, Try.ntmps5
    go_wp2_with (go_at_call 17; refine (bytes17 _ _ _ _ _ _ _ _ _ h1').mono ?_; rintro e w' ⟨rfl, rfl⟩)
    go_ret
    exact ⟨rfl, Below.refl _ _⟩
  by_cases h3 : a0 < 0
  · go_enter Try.func5, Try.ntmps5
    go_wp2_with (go_at_call 17; refine (bytes17 _ _ _ _ _ _ _ _ _ h1').mono ?_; rintro e w' ⟨rfl, rfl⟩)
    go_ret
    exact ⟨rfl, Below.refl _ _⟩
  obtain ⟨lim, rfl⟩ : ∃ lim : Nat, a0 = (lim : Int) := ⟨a0.toNat, by omega⟩
  have hlim : lim ≤ maxLen := by have := bounds_i64 w0; unfold maxLen; omega
  clear h3
  obtain ⟨xs, hxs⟩ : ∃ xs, xs = z1.take len1 := ⟨_, rfl⟩
  obtain ⟨ys, hys⟩ : ∃ ys, ys = z3.take len3 := ⟨_, rfl⟩
  rw [← hxs] at hxl
  rw [← hys] at hyl
  have CL := clone_any w1 (by omega)
  rw [← hxs] at CL
  have CL3 := fun (w' : World) (r : IsRow .u64 w' a3 len3 cap3 z3) => clone_any r (by omega)
  rw [← hys] at CL3
  clear hxs hys w1
  have hd23 : decide ((131072 : Int) < (len1 : Int)) = false := by simp; omega
  have hd29 : decide ((131072 : Int) - (len1 : Int) < (len3 : Int)) = false := by simp; omega
  have hd31 : decide ((lim : Int) < 0) = false := by simp
  go_enter Try.func5, Try.ntmps5
  go_wp2_with fail
  refine (bytes17 _ _ _ _ _ _ _ _ _ h1').mono ?_
  rintro e w' ⟨rfl, rfl⟩
  go_wp2_with fail
  refine CL.mono ?_
  rintro e wA ⟨ao, c2, rfl, arrA, sA⟩
  have w3A := w3.stp sA
  go_wp2_with fail
  refine (CL3 wA w3A).mono ?_
  rintro e wB ⟨bo, c4, rfl, arrB, sB⟩
  have arrA2 := arrA.stp sB (fun _ h => h)
  go_wp2_with fail
  refine (ghost_new lim wB).mono ?_
  rintro e wC ⟨rfl, gA, sC, hzC⟩
  go_wp2_with fail
  refine (ghost_new lim wC).mono ?_
  rintro e wD ⟨rfl, gB, sD, hzD⟩
  have l0 : L2 w wD (fun i => i = wB.heap.size) (fun i => i = wC.heap.size) wB.heap.size wC.heap.size lim (List.foldl (gAdd lim) [] (xs.take 0)) (List.foldl (gAdd lim) [] (xs.take 0)) 0 0 w.heap.size wA.heap.size (.slice ao len1 c2) (.slice bo len3 c4) xs ys := by
    have b0 : Below w.heap.size w wD := (((sA.below (Nat.le_refl _) (fun _ h => h.elim)).trans (sB.below sA.size (fun _ h => h.elim))).trans (sC.below (Nat.le_trans sA.size sB.size) (fun _ h => h.elim))).trans (sD.below (Nat.le_trans (Nat.le_trans sA.size sB.size) sC.size) (fun _ h => h.elim))
    have q1 := sA.size
    have q2 := sB.size
    refine ⟨⟨gA.frame sD (fun _ _ h => h), (arrA2.stp sC (fun _ h => h)).stp sD (fun _ h => h), fun h e => ?_, b0, fun i e => ?_, Nat.le_refl _⟩, ⟨gB, (arrB.stp sC (fun _ h => h)).stp sD (fun _ h => h), fun h e => ?_, b0, fun i e => ?_, q1⟩, fun i e1 e2 => ?_, fun h e => ?_, fun h e => ?_⟩
    · have := arrA2.lt h; omega
    · omega
    · have := arrB.lt h; omega
    · omega
    · omega
    · have := arrA2.lt h; omega
    · have := arrB.lt h; omega
  obtain ⟨ga, hga⟩ : ∃ ga, ga = wB.heap.size := ⟨_, rfl⟩
  obtain ⟨gb, hgb⟩ : ∃ gb, gb = wC.heap.size := ⟨_, rfl⟩
  obtain ⟨b2, hb2⟩ : ∃ b2, b2 = wA.heap.size := ⟨_, rfl⟩
  rw [← hga, ← hgb, ← hb2] at l0
  rw [← hga, ← hgb]
  clear gA gB sA sB sC sD hzC hzD arrA arrA2 arrB hga hgb hb2 CL CL3 w3A w3
  go_wp2
  go_loopg [11] len1 (fun k s11 wr => ∃ (j : Nat) (Fa Fb : Nat → Prop), j ≤ len1 ∧ k = len1 - j ∧ s11 = .int .i64 (j : Int) ∧ L2 w wr Fa Fb ga gb lim (List.foldl (gAdd lim) [] (xs.take j)) (List.foldl (gAdd lim) [] (xs.take j)) j j w.heap.size b2 (.slice ao len1 c2) (.slice bo len3 c4) xs ys)
  case atStart => exact ⟨0, _, _, Nat.zero_le _, rfl, rfl, l0⟩
  case round =>
  obtain ⟨j, Fa, Fb, hj, hk, rfl, l⟩ := hrel
  have HK : Hid (gk = len1 - j) := hk
  clear hk l0
  by_cases hlt : j < len1
  · obtain ⟨x, hx⟩ : ∃ x, xs[j]? = some x := ⟨_, List.getElem?_eq_getElem (by omega)⟩
    have hwx := l.A.a.wf x (List.mem_of_getElem? hx)
    have hcx := l.A.a.cell j x hx
    have hix := fun w' => l.A.a.idx j w' (by omega)
    have HX : Hid (xs[j]? = some x) := hx
    clear hx
    go_wp2_with fail
    refine (ghost_add l.A.g hwx hlim (by omega)).mono ?_
    rintro e w4 ⟨rfl, F4, g4, s4, hF4⟩
    have l4 := l.stepA g4 s4 hF4
    have hcx4 := l4.A.a.cell j x HX.out
    go_wp2_with fail
    refine (ghost_add l4.B.g hwx hlim (by omega)).mono ?_
    rintro e w5 ⟨rfl, F5, g5, s5, hF5⟩
    have l5 := l4.stepB g5 s5 hF5
    go_wp2
    go_roundg (len1 - (j + 1))
    case measure => have := HK.out; omega
    case rel => exact ⟨j + 1, F4, F5, by omega, rfl, by go_num, by rw [List.take_add_one, HX.out, List.foldl_append]; exact l5⟩
  · have hjl : j = len1 := by omega
    subst hjl
    clear HK hj
    -- add(ga, h), add(gb, h), add(gb, h)
    go_wp2_with fail
    refine (ghost_add l.A.g whx hlim (by omega)).mono ?_
    rintro e w4 ⟨rfl, F4, g4, s4, hF4⟩
    have l4 := l.stepA g4 s4 hF4
    go_wp2_with fail
    refine (ghost_add l4.B.g whx hlim (by omega)).mono ?_
    rintro e w5 ⟨rfl, F5, g5, s5, hF5⟩
    have l5 := l4.stepB g5 s5 hF5
    go_wp2_with fail
    refine (ghost_add l5.B.g whx hlim (by omega)).mono ?_
    rintro e w6 ⟨rfl, F6, g6, s6, hF6⟩
    have l6 := l5.stepB g6 s6 hF6
    rw [gAdd_same a2 l.A.g.2.1] at l6
    obtain ⟨na, nb, L0, hna', hnb', l7⟩ : ∃ na nb L0, na ≤ j + 2 ∧ nb ≤ j + 2 ∧ L2 w w6 F4 F6 ga gb lim L0 L0 na nb w.heap.size b2 (.slice ao j c2) (.slice bo len3 c4) xs ys := ⟨j + 1, j + 1 + 1, _, by omega, by omega, l6⟩
    clear l l4 l5 l6 g4 g5 g6 s4 s5 s6 hlt
    go_wp2
    go_loopg [12] len3 (fun k s12 wr => ∃ (q : Nat) (Fa Fb : Nat → Prop) (L : List Int), q ≤ len3 ∧ k = len3 - q ∧ s12 = .int .i64 (q : Int) ∧ L2 w wr Fa Fb ga gb lim L L (na + q) (nb + q) w.heap.size b2 (.slice ao j c2) (.slice bo len3 c4) xs ys)
    case atStart => exact ⟨0, _, _, L0, Nat.zero_le _, rfl, rfl, l7⟩
    case round =>
    clear l7
    obtain ⟨q, Fa, Fb, L, hq, hk, rfl, l⟩ := hrel
    have HK : Hid (gk = len3 - q) := hk
    clear hk
    by_cases hlt : q < len3
    · obtain ⟨x, hx⟩ : ∃ x, ys[q]? = some x := ⟨_, List.getElem?_eq_getElem (by omega)⟩
      have hwx := l.B.a.wf x (List.mem_of_getElem? hx)
      have hcx := l.B.a.cell q x hx
      have hix := fun w' => l.B.a.idx q w' (by omega)
      have HX : Hid (ys[q]? = some x) := hx
      clear hx
      go_wp2_with fail
      refine (ghost_add l.A.g hwx hlim (by omega)).mono ?_
      rintro e w4 ⟨rfl, F4, g4, s4, hF4⟩
      have l4 := l.stepA g4 s4 hF4
      have hcx4 := l4.B.a.cell q x HX.out
      go_wp2_with fail
      refine (ghost_add l4.B.g hwx hlim (by omega)).mono ?_
      rintro e w5 ⟨rfl, F5, g5, s5, hF5⟩
      have l5 := l4.stepB g5 s5 hF5
      go_wp2
      go_roundg (len3 - (q + 1))
      case measure => have := HK.out; omega
      case rel => exact ⟨q + 1, F4, F5, _, by omega, rfl, by go_num, l5⟩
    · have hql : q = len3 := by omega
      subst hql
      clear HK hq hlt
      go_wp2
      go_loopg [13] j (fun k s13 wr => ∃ (p : Nat) (L : List Int), p ≤ j ∧ k = j - p ∧ s13 = .int .i64 (p : Int) ∧ L2 w wr Fa Fb ga gb lim L L (na + q) (nb + q) w.heap.size b2 (.slice ao j c2) (.slice bo q c4) xs ys)
      case atStart => exact ⟨0, L, Nat.zero_le _, rfl, rfl, l⟩
      case round =>
      clear l
      obtain ⟨p, L, hp, hk, rfl, l⟩ := hrel
      have HK : Hid (gk = j - p) := hk
      clear hk
      by_cases hlt : p < j
      · obtain ⟨x, hx⟩ : ∃ x, xs[p]? = some x := ⟨_, List.getElem?_eq_getElem (by omega)⟩
        have hwx := l.A.a.wf x (List.mem_of_getElem? hx)
        have hcx := l.A.a.cell p x hx
        have hix := fun w' => l.A.a.idx p w' (by omega)
        have HX : Hid (xs[p]? = some x) := hx
        clear hx
        obtain ⟨b, hb⟩ : ∃ b, decide (x ∈ L) = b := ⟨_, rfl⟩
        have HB : Hid (decide (x ∈ L) = b) := hb
        clear hb
        have ld := l.drew
        go_wp2
        go_region_held3 (fun w' => w'.cell? ⟨w.heap.size, p, none⟩ = some (.int .u64 x)) (go_keep) (first
          | (go_at_call_of 11 (Value.pointer (some (Addr.mk ga 0 none))); refine (ghost_forget_b ld.A.g hwx HB).mono ?_; rintro e w4 ⟨rfl, g4, s4⟩; have l4 := ld.stepA g4 s4 (fun _ h => .inl h); have hc4 := l4.A.a.cell p x HX.out)
          | (go_at_call_of 11 (Value.pointer (some (Addr.mk gb 0 none))); refine (ghost_forget_b l4.B.g hwx HB).mono ?_; rintro e w5 ⟨rfl, g5, s5⟩; have l5 := l4.stepB g5 s5 (fun _ h => .inl h); have hc5 := l5.A.a.cell p x HX.out))
        all_goals
          go_wp2
          go_roundg (j - (p + 1))
          case measure => have := HK.out; omega
          case rel => exact ⟨p + 1, _, by omega, rfl, by go_num, l5⟩
      · have hpl : p = j := by omega
        subst hpl
        clear HK hp hlt
        go_wp2
        go_loopg [14] q (fun k s14 wr => ∃ (r : Nat) (L : List Int), r ≤ q ∧ k = q - r ∧ s14 = .int .i64 (r : Int) ∧ L2 w wr Fa Fb ga gb lim L L (na + q) (nb + q) w.heap.size b2 (.slice ao p c2) (.slice bo q c4) xs ys)
        case atStart => exact ⟨0, L, Nat.zero_le _, rfl, rfl, l⟩
        case round =>
        clear l
        obtain ⟨r, L, hr, hk, rfl, l⟩ := hrel
        have HK : Hid (gk = q - r) := hk
        clear hk
        by_cases hlt : r < q
        · obtain ⟨x, hx⟩ : ∃ x, ys[r]? = some x := ⟨_, List.getElem?_eq_getElem (by omega)⟩
          have hwx := l.B.a.wf x (List.mem_of_getElem? hx)
          have hcx := l.B.a.cell r x hx
          have hix := fun w' => l.B.a.idx r w' (by omega)
          have HX : Hid (ys[r]? = some x) := hx
          clear hx
          obtain ⟨b, hb⟩ : ∃ b, decide (x ∈ L) = b := ⟨_, rfl⟩
          have HB : Hid (decide (x ∈ L) = b) := hb
          clear hb
          have ld := l.drew
          go_wp2
          go_region_held3 (fun w' => w'.cell? ⟨b2, r, none⟩ = some (.int .u64 x)) (go_keep) (first
            | (go_at_call_of 11 (Value.pointer (some (Addr.mk ga 0 none))); refine (ghost_forget_b ld.A.g hwx HB).mono ?_; rintro e w4 ⟨rfl, g4, s4⟩; have l4 := ld.stepA g4 s4 (fun _ h => .inl h); have hc4 := l4.B.a.cell r x HX.out)
            | (go_at_call_of 11 (Value.pointer (some (Addr.mk gb 0 none))); refine (ghost_forget_b l4.B.g hwx HB).mono ?_; rintro e w5 ⟨rfl, g5, s5⟩; have l5 := l4.stepB g5 s5 (fun _ h => .inl h); have hc5 := l5.B.a.cell r x HX.out))
          all_goals
            go_wp2
            go_roundg (q - (r + 1))
            case measure => have := HK.out; omega
            case rel => exact ⟨r + 1, _, by omega, rfl, by go_num, l5⟩
        · clear HK hr
          obtain ⟨b, hb⟩ : ∃ b, decide (a2 ∈ L) = b := ⟨_, rfl⟩
          have HB : Hid (decide (a2 ∈ L) = b) := hb
          clear hb
          go_wp2_with fail
          refine (ghost_forget_b l.A.g whx HB).mono ?_
          rintro e w4 ⟨rfl, g4, s4⟩
          have l4 := l.stepA g4 s4 (fun _ h => .inl h)
          go_wp2_with fail
          refine (ghost_forget_b l4.B.g whx HB).mono ?_
          rintro e w5 ⟨rfl, g5, s5⟩
          have l5 := l4.stepB g5 s5 (fun _ h => .inl h)
          go_wp2
          go_ret
          exact ⟨rfl, l5.A.bel⟩

end Go.Proofs.Qxb6603426a
