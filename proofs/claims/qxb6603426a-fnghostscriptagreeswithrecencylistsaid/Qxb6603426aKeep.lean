/-
  THE WALK OF THE LAW FnGhostAddsKeepLastDistinct.
-/
import Derived.Test.Qxb6603426aClone
import Derived.Test.Qxb6603426aLast
import Derived.Deep.RegionHeld3
import Derived.OpenShut
namespace Go.Proofs.Qxb6603426a
open Go.RowKit Go.Maps

/-- A ghost beside an array of the call's own, in a call that began in w0. -/
structure LS (w0 wr : World) (F : Nat → Prop) (gb lim : Nat) (L : List Int) (n b : Nat) (v : Value) (xs : List Int) : Prop where
  g : Ghost wr F gb lim L n
  a : Arr wr b v xs
  nb : 0 < xs.length → ¬ F b
  bel : Below w0.heap.size w0 wr
  fw : ∀ i, F i → w0.heap.size ≤ i
  hb : w0.heap.size ≤ b

theorem LS.add {w0 wr w' : World} {F F' : Nat → Prop} {gb lim : Nat} {L L' : List Int} {n n' b : Nat} {v : Value} {xs : List Int} (l : LS w0 wr F gb lim L n b v xs) (g : Ghost w' F' gb lim L' n') (s : Stp wr w' F) (hF : ∀ i, F' i → F i ∨ wr.heap.size ≤ i) : LS w0 w' F' gb lim L' n' b v xs :=
  ⟨g, l.a.stp s l.nb, fun h hf => by
    rcases hF b hf with h1 | h1
    · exact l.nb h h1
    · have := l.a.lt h; omega, l.bel.trans (s.below l.bel.size l.fw), fun i hi => by
    rcases hF i hi with h1 | h1
    · exact l.fw i h1
    · have := l.bel.size; omega, l.hb⟩

/-- The map of those kept: just the hashes of K. -/
structure SetIs (D : DataW Unit) (K : List Int) : Prop where
  at_ : ∀ x, D.atKey (ky x) (.lit (.bool false)) = .lit (.bool (decide (x ∈ K)))
  map : IsMap D

theorem setIs_empty : SetIs (.map []) [] := ⟨fun x => by simp [DataW.atKey], isMap_empty⟩

theorem SetIs.put {D : DataW Unit} {K : List Int} (s : SetIs D K) (y : Int) : SetIs (D.put (ky y) (.lit (.bool true))) (K ++ [y]) :=
  ⟨fun x => by
    by_cases e : x = y
    · subst e
      rw [atKey_put_same s.map (ky_key x)]
      simp
    · rw [atKey_put_other (ky_ne e), s.at_ x]
      simp [e], s.map.put _ _⟩

theorem SetIs.del {D : DataW Unit} {K : List Int} (s : SetIs D K) (y : Int) : SetIs (D.del (ky y)) (rm K y) :=
  ⟨fun x => by
    by_cases e : x = y
    · subst e
      rw [atKey_del_same]
      simp [mem_rm]
    · rw [atKey_del_other (ky_ne e), s.at_ x]
      simp [mem_rm, e], s.map.del _⟩

theorem zero4 (w : World) : (zeroValue 4).run Try.prog w = .ok (.bool false) w := by kernel_rfl

theorem plainElem_bool_inv {v : Value} {b : Bool} {ps : List MemPlace} (h : plainElem (H := Unit) Try.prog 4 v = some (.lit (.bool b), ps)) : v = .bool b := by
  unfold plainElem at h
  rw [Try.underlying4] at h
  cases v <;> simp at h
  rw [h.1]

section
variable {w : World} {m n : Nat} {D : DataW Unit} {K : List Int}

theorem set_look (hm : w.ownsMap Try.prog 29 (plainElem Try.prog 4) m n D) (s : SetIs D K) {x : Int} (hx : (Lit.int .u64 x).wf = true) :
    (Instr.lookup 39 (.map (some m)) (.int .u64 x) false).run Try.prog w = .ok (.bool (decide (x ∈ K))) w := by
  obtain ⟨v, ps, hrun, hv⟩ := hm.lookup law29 Try.underlying39 (zero4 w) (plainElem_bool (H := Unit) Try.underlying4 false) (u64key hx)
  rw [s.at_ x] at hv
  rw [plainElem_bool_inv hv] at hrun
  exact hrun

theorem set_put (hm : w.ownsMap Try.prog 29 (plainElem Try.prog 4) m n D) {x : Int} (hx : (Lit.int .u64 x).wf = true) (hn : n < maxLen) :
    ∃ w1, (Instr.mapUpdate 39 (.map (some m)) (.int .u64 x) (.bool true)).run Try.prog w = .ok () w1 ∧ w1.ownsMap Try.prog 29 (plainElem Try.prog 4) m (n + 1) (D.put (ky x) (.lit (.bool true))) ∧ Stp w w1 (fun i => i = m) := by
  obtain ⟨w1, hrun, hown, hturn⟩ := hm.store law29 Try.underlying39 hn (u64key hx) (plainElem_bool (H := Unit) Try.underlying4 true)
  exact ⟨w1, hrun, hown, (Stp.of_grown hturn.grown).mono (fun i h => by simpa using h)⟩

theorem set_del (hm : w.ownsMap Try.prog 29 (plainElem Try.prog 4) m n D) {x : Int} (hx : (Lit.int .u64 x).wf = true) :
    ∃ w1, (Builtin.delete_ #[39, 29] 0 #[.map (some m), .int .u64 x]).run Try.prog w = .ok (.tuple #[]) w1 ∧ w1.ownsMap Try.prog 29 (plainElem Try.prog 4) m n (D.del (ky x)) ∧ Stp w w1 (fun i => i = m) := by
  obtain ⟨w1, hrun, hown, hturn⟩ := hm.drop law29 Try.underlying39 (u64key hx) 0
  exact ⟨w1, hrun, hown, (Stp.of_grown hturn.grown).mono (fun i h => by simpa using h)⟩
end

/-- .. and the map of those kept beside them. -/
structure LM (w0 wr : World) (F : Nat → Prop) (gb lim : Nat) (L : List Int) (n b : Nat) (v : Value) (xs : List Int) (m N : Nat) (D : DataW Unit) (K : List Int) : Prop where
  l : LS w0 wr F gb lim L n b v xs
  mp : wr.ownsMap Try.prog 29 (plainElem Try.prog 4) m N D
  set : SetIs D K
  mF : ¬ F m
  mb : 0 < xs.length → m ≠ b
  mw : w0.heap.size ≤ m

theorem LM.mapped {w0 wr w' : World} {F : Nat → Prop} {gb lim : Nat} {L : List Int} {n b : Nat} {v : Value} {xs : List Int} {m N N' : Nat} {D D' : DataW Unit} {K K' : List Int} (l : LM w0 wr F gb lim L n b v xs m N D K)
    (hm : w'.ownsMap Try.prog 29 (plainElem Try.prog 4) m N' D') (s : Stp wr w' (fun i => i = m)) (hs : SetIs D' K') : LM w0 w' F gb lim L n b v xs m N' D' K' :=
  ⟨⟨l.l.g.frame s (fun i hi e => l.mF (e ▸ hi)), l.l.a.stp s (fun h e => l.mb h e.symm), l.l.nb, l.l.bel.trans (s.below l.l.bel.size (fun _ e => by rw [e]; exact l.mw)), l.l.fw, l.l.hb⟩, hm, hs, l.mF, l.mb, l.mw⟩

theorem LM.forgot {w0 wr w' : World} {F : Nat → Prop} {gb lim : Nat} {L L' : List Int} {n b : Nat} {v : Value} {xs : List Int} {m N : Nat} {D : DataW Unit} {K : List Int} (l : LM w0 wr F gb lim L n b v xs m N D K)
    (g : Ghost w' F gb lim L' n) (s : Stp wr w' F) : LM w0 w' F gb lim L' n b v xs m N D K :=
  ⟨l.l.add g s (fun _ hi => .inl hi), ownsMap_stp l.mp s l.mF, l.set, l.mF, l.mb, l.mw⟩

theorem LM.drew {w0 wr : World} {F : Nat → Prop} {gb lim : Nat} {L : List Int} {n b : Nat} {v : Value} {xs : List Int} {m N : Nat} {D : DataW Unit} {K : List Int} (l : LM w0 wr F gb lim L n b v xs m N D K) : LM w0 wr.drew F gb lim L n b v xs m N D K :=
  l.forgot (l.l.g.frame (Stp.drewN wr 1 (fun _ => False)) (fun _ _ h => h)) (Stp.drewN wr 1 F)

theorem LS.made {w0 wr : World} {F : Nat → Prop} {gb lim : Nat} {L : List Int} {n b : Nat} {v : Value} {xs : List Int} (l : LS w0 wr F gb lim L n b v xs) : LM w0 (wr.alloc (.map #[] 0)) F gb lim L n b v xs wr.heap.size 0 (.map []) [] := by
  have s := Stp.alloc wr (.map #[] 0) (fun _ => False)
  exact ⟨⟨l.g.frame s (fun _ _ h => h), l.a.stp s (fun _ h => h), l.nb, l.bel.trans (s.below l.bel.size (fun _ h => h.elim)), l.fw, l.hb⟩, World.ownsMap_made _ _ _ _, setIs_empty, fun h => by have := l.g.lt _ h; omega, fun h e => by have := l.a.lt h; omega, l.bel.size⟩

set_option maxRecDepth 100000 in
set_option maxHeartbeats 2000000 in
theorem keep_walk (a0 : Int) (a1 : Option Addr) (len1 cap1 : Nat) (z1 : List Int) (w : World) (w0 : (Lit.int .i64 a0).wf = true) (w1 : IsRow .u64 w a1 len1 cap1 z1) :
    Calls Try.prog 4 #[.int .i64 a0, .slice a1 len1 cap1] w fun e w' => e = .returned (.bool true) ∧ Below w.heap.size w w' := by
  obtain ⟨hlm, hxl⟩ := w1.len_le
  by_cases h1 : 1048576 < len1
  · go_enter Try.func4, Try.ntmps4
    go_wp2_with (go_at_call 15; refine (bytes15_no _ _ _ _ _ h1).mono ?_; rintro e w' ⟨rfl, rfl⟩)
    go_ret
    exact ⟨rfl, Below.refl _ _⟩
  by_cases h2 : (131072 : Int) < (len1 : Int)
  · go_enter Try.func4, Try.ntmps4
    go_wp2_with (go_at_call 15; refine (bytes15 _ _ _ _ _ (by omega)).mono ?_; rintro e w' ⟨rfl, rfl⟩)
    go_ret
    exact ⟨rfl, Below.refl _ _⟩
  by_cases h3 : a0 < 0
  · go_enter Try.func4, Try.ntmps4
    go_wp2_with (go_at_call 15; refine (bytes15 _ _ _ _ _ (by omega)).mono ?_; rintro e w' ⟨rfl, rfl⟩)
    go_ret
    exact ⟨rfl, Below.refl _ _⟩
  obtain ⟨lim, rfl⟩ : ∃ lim : Nat, a0 = (lim : Int) := ⟨a0.toNat, by omega⟩
  have hlim : lim ≤ maxLen := by have := bounds_i64 w0; unfold maxLen; omega
  clear h3
  obtain ⟨xs, hxs⟩ : ∃ xs, xs = z1.take len1 := ⟨_, rfl⟩
  rw [← hxs] at hxl
  have CL := clone_any w1 (by omega)
  rw [← hxs] at CL
  clear hxs w1
  have hmm := @run_makeMap Try.prog
  have hd18 : decide ((131072 : Int) < (len1 : Int)) = false := by simp; omega
  have hd20 : decide ((lim : Int) < 0) = false := by simp
  go_enter Try.func4, Try.ntmps4
  go_wp2_with (first | (go_at_call 15; refine (bytes15 _ _ _ _ _ (by omega)).mono ?_; rintro e w' ⟨rfl, rfl⟩) | (go_at_call 16; refine CL.mono ?_; rintro e w2 ⟨ao, c2, rfl, arr, s2⟩) | (go_at_call 9; refine (ghost_new lim _).mono ?_; rintro e w3 ⟨rfl, gh, s3, hz3⟩))
  have L1 : LS w w3 (fun i => i = w2.heap.size) w2.heap.size lim (List.foldl (gAdd lim) [] (xs.take 0)) 0 w.heap.size (.slice ao len1 c2) xs :=
    ⟨gh, arr.stp s3 (fun _ h => h), fun h e => by have := arr.lt h; omega, (s2.below (Nat.le_refl _) (fun _ h => h.elim)).trans (s3.below s2.size (fun _ h => h.elim)), fun i e => by rw [e]; exact s2.size, Nat.le_refl _⟩
  obtain ⟨gb, hgb⟩ : ∃ gb, gb = w2.heap.size := ⟨_, rfl⟩
  rw [← hgb] at L1 ⊢
  clear gh s3 hz3 arr s2 hgb CL
  go_loopg [6] len1 (fun k s6 wr => ∃ (j : Nat) (F : Nat → Prop), j ≤ len1 ∧ k = len1 - j ∧ s6 = .int .i64 (j : Int) ∧ LS w wr F gb lim (List.foldl (gAdd lim) [] (xs.take j)) j w.heap.size (.slice ao len1 c2) xs)
  case atStart => exact ⟨0, _, Nat.zero_le _, rfl, rfl, L1⟩
  case round =>
  obtain ⟨j, F, hj, hk, rfl, l⟩ := hrel
  have HK : Hid (gk = len1 - j) := hk
  clear hk L1
  by_cases hlt : j < len1
  · obtain ⟨x, hx⟩ : ∃ x, xs[j]? = some x := ⟨_, List.getElem?_eq_getElem (by omega)⟩
    have hwx := l.a.wf x (List.mem_of_getElem? hx)
    have hcx := l.a.cell j x hx
    have hix := fun w' => l.a.idx j w' (by omega)
    have HX : Hid (xs[j]? = some x) := hx
    clear hx
    go_wp2_with (go_at_call 13; refine (ghost_add l.g hwx hlim (by omega)).mono ?_; rintro e w' ⟨rfl, F', g', s', hF'⟩)
    have l' := l.add g' s' hF'
    go_roundg (len1 - (j + 1))
    case measure => have := HK.out; omega
    case rel => exact ⟨j + 1, F', by omega, rfl, by go_num, by rw [List.take_add_one, HX.out, List.foldl_append]; exact l'⟩
  · have hjl : j = len1 := by omega
    subst hjl
    rw [List.take_of_length_le (by omega)] at l
    have LM0 := l.made
    clear l HK hlt hj
    go_wp2
    obtain ⟨mk, hmk⟩ : ∃ mk, mk = wr.heap.size := ⟨_, rfl⟩
    rw [← hmk] at LM0 ⊢
    clear hmk hmm
    go_loopg [8, 9] j (fun k s8 s9 wr => ∃ (i : Int) (N : Nat) (D : DataW Unit) (K : List Int), -1 ≤ i ∧ i < j ∧ k = (i + 1).toNat ∧ s8 = .int .i64 (K.length : Int) ∧ s9 = .int .i64 i ∧ N ≤ K.length ∧ K.length + (i + 1).toNat ≤ j ∧
      LM w wr F gb lim (List.foldl (gAdd lim) [] xs) j w.heap.size (.slice ao j c2) xs mk N D K ∧ keep lim [] xs.reverse = keep lim K (xs.take (i + 1).toNat).reverse)
    case atStart => exact ⟨(j : Int) - 1, 0, .map [], [], by omega, by omega, by omega, rfl, rfl, Nat.zero_le _, by simp, LM0, by rw [List.take_of_length_le (by omega)]⟩
    case round =>
    obtain ⟨i, N, D, K, hi1, hi2, hk, rfl, rfl, hN, hKj, l, hkeep⟩ := hrel
    have HK : Hid (gk = (i + 1).toNat) := hk
    have HP : Hid (keep lim [] xs.reverse = keep lim K (xs.take (i + 1).toNat).reverse) := hkeep
    clear hk hkeep LM0
    by_cases hgo : 0 ≤ i ∧ (K.length : Int) < (lim : Int)
    · obtain ⟨hi0, hKl⟩ := hgo
      obtain ⟨q, rfl⟩ : ∃ q : Nat, i = (q : Int) := ⟨i.toNat, by omega⟩
      obtain ⟨x, hx⟩ : ∃ x, xs[q]? = some x := ⟨_, List.getElem?_eq_getElem (by omega)⟩
      have hwx := l.l.a.wf x (List.mem_of_getElem? hx)
      have hcx := l.l.a.cell q x hx
      have hix := fun w' => l.l.a.idx q w' (by omega)
      have hlook := set_look l.mp l.set hwx
      have HP2 : Hid (keep lim [] xs.reverse = keep lim K (x :: (xs.take q).reverse)) := by
        have h1 := HP.out
        have e1 : ((q : Int) + 1).toNat = q + 1 := by omega
        rw [e1, List.take_add_one, hx] at h1
        simpa [Hid] using h1
      clear hx HP
      by_cases hm : x ∈ K
      · have hlook' : (Instr.lookup 39 (.map (some mk)) (.int .u64 x) false).run Try.prog wr = .ok (.bool true) wr := by rw [hlook, decide_eq_true hm]
        clear hlook
        go_wp2
        go_roundg q
        case measure => have := HK.out; omega
        case rel =>
          refine ⟨(q : Int) - 1, N, D, K, by omega, by omega, by omega, rfl, rfl, hN, by omega, l, ?_⟩
          have h1 := HP2.out
          have e1 : ((q : Int) - 1 + 1).toNat = q := by omega
          rw [e1, h1, keep, if_neg (by omega), if_pos hm]
      · have hlook' : (Instr.lookup 39 (.map (some mk)) (.int .u64 x) false).run Try.prog wr = .ok (.bool false) wr := by rw [hlook, decide_eq_false hm]
        clear hlook
        obtain ⟨w5, hput, hm5, s5⟩ := set_put l.mp hwx (by unfold maxLen; omega)
        have l5 := l.mapped hm5 s5 (l.set.put x)
        have hcx5 := l5.l.a.cell q x
        go_wp2
        go_roundg q
        case measure => have := HK.out; omega
        case rel =>
          refine ⟨(q : Int) - 1, N + 1, _, K ++ [x], by omega, by omega, by omega, by simp, rfl, by simp; omega, by simp; omega, l5, ?_⟩
          have h1 := HP2.out
          have e1 : ((q : Int) - 1 + 1).toNat = q := by omega
          rw [e1, h1, keep, if_neg (by omega), if_neg hm]
    · have HF : Hid (K = keep lim [] xs.reverse) := by
        have h1 := HP.out
        by_cases hi0 : 0 ≤ i
        · rw [h1, keep_full lim K _ (by omega)]
          exact rfl
        · have e1 : (i + 1).toNat = 0 := by omega
          rw [h1, e1]
          exact rfl
      clear HP
      have hall : ∀ x, x ∈ List.foldl (gAdd lim) [] xs ↔ x ∈ K := fun x => by rw [foldl_mem, ← HF.out]
      obtain ⟨L0, hL0⟩ : ∃ L0, L0 = List.foldl (gAdd lim) [] xs := ⟨_, rfl⟩
      rw [← hL0] at l hall
      clear hL0 HF HK hN
      by_cases hi0 : 0 ≤ i
      all_goals
        try have hd47 : decide (lim ≤ K.length) = true := decide_eq_true (by omega)
        go_wp2
        clear hgo
        go_loopg [10] j (fun k s10 wr => ∃ (q : Nat) (L : List Int) (D : DataW Unit) (K : List Int), q ≤ j ∧ k = j - q ∧ s10 = .int .i64 (q : Int) ∧ LM w wr F gb lim L j w.heap.size (.slice ao j c2) xs mk N D K ∧ ∀ x, x ∈ L ↔ x ∈ K)
        case atStart => exact ⟨0, L0, D, K, Nat.zero_le _, rfl, rfl, l, hall⟩
        case round =>
        clear l hall
        obtain ⟨q, L, D, K, hq, hk, rfl, l, hall⟩ := hrel
        have HK : Hid (gk = j - q) := hk
        clear hk
        by_cases hlt : q < j
        · obtain ⟨x, hx⟩ : ∃ x, xs[q]? = some x := ⟨_, List.getElem?_eq_getElem (by omega)⟩
          have hwx := l.l.a.wf x (List.mem_of_getElem? hx)
          have hcx := l.l.a.cell q x hx
          have hix := fun w' => l.l.a.idx q w' (by omega)
          clear hx
          obtain ⟨b, hb1, hb2⟩ : ∃ b, decide (x ∈ L) = b ∧ decide (x ∈ K) = b := ⟨decide (x ∈ K), decide_eq_decide.2 (hall x), rfl⟩
          have hl : ∀ w' : World, w'.ownsMap Try.prog 29 (plainElem Try.prog 4) mk N D → (Instr.lookup 39 (.map (some mk)) (.int .u64 x) false).run Try.prog w' = .ok (.bool b) w' := fun w' h' => by
            rw [set_look h' l.set hwx, hb2]
          have ld := l.drew
          have hfor := ghost_forget ld.l.g hwx
          rw [hb1] at hfor
          clear hb1 hb2
          go_wp2
          go_region_held3 (fun w' => w'.ownsMap Try.prog 29 (plainElem Try.prog 4) mk N D) (first | assumption | exact ld.mp) (first | (go_at_call 11; refine hfor.mono ?_; rintro e w' ⟨rfl, g', s'⟩; have hm' := ownsMap_stp ld.mp s' ld.mF))
          all_goals
            have l' := ld.forgot g' s'
            obtain ⟨w6, hdel, hm6, s6⟩ := set_del l'.mp hwx
            have l6 := l'.mapped hm6 s6 (l'.set.del x)
            go_wp2
            go_roundg (j - (q + 1))
            case measure => have := HK.out; omega
            case rel => exact ⟨q + 1, rm L x, _, rm K x, by omega, rfl, by go_num, l6, fun y => by rw [mem_rm, mem_rm, hall y]⟩
        · go_wp2
          go_ret
          exact ⟨rfl, l.l.bel⟩

end Go.Proofs.Qxb6603426a
