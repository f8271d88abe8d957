/-
  TWO GHOSTS SIDE BY SIDE, each with an array of the call's own; and the plain laws of adding twice, of forgetting before adding.
-/
import Derived.Test.Qxb6603426aKeep
namespace Go.Proofs.Qxb6603426a
open Go.RowKit Go.Maps

theorem gAdd_same {lim : Nat} {L : List Int} (h : Int) (hl : L.length ≤ lim) : gAdd lim (gAdd lim L h) h = gAdd lim L h := by
  have hle := length_rm_le L h
  by_cases h0 : lim = 0
  · simp [gAdd, h0]
  · by_cases h1 : lim < (rm L h ++ [h]).length
    · have e1 : gAdd lim L h = (rm L h).drop 1 ++ [h] := by
        unfold gAdd
        rw [if_neg h0, if_pos h1]
        simp at h1
        rw [List.drop_append_of_le_length (by omega)]
      have hn : h ∉ (rm L h).drop 1 := fun hm => (mem_rm.1 (List.mem_of_mem_drop hm)).2 rfl
      have e2 : rm ((rm L h).drop 1 ++ [h]) h = (rm L h).drop 1 := by
        have e3 : rm ((rm L h).drop 1 ++ [h]) h = rm ((rm L h).drop 1) h := by simp [rm, List.filter_append]
        rw [e3, rm_of_not_mem hn]
      rw [e1]
      unfold gAdd
      rw [if_neg h0, e2, if_neg (by simp; omega)]
    · have e1 : gAdd lim L h = rm L h ++ [h] := by
        unfold gAdd
        rw [if_neg h0, if_neg h1]
      have e2 : rm (rm L h ++ [h]) h = rm L h := by
        have e3 : rm (rm L h ++ [h]) h = rm (rm L h) h := by simp [rm, List.filter_append]
        rw [e3, rm_rm]
      rw [e1]
      unfold gAdd
      rw [if_neg h0, e2, if_neg h1]

theorem gAdd_rm {lim : Nat} {L : List Int} (h : Int) (hl : L.length ≤ lim) : gAdd lim (rm L h) h = gAdd lim L h := by
  by_cases h0 : lim = 0
  · have : L = [] := List.eq_nil_of_length_eq_zero (by omega)
    subst this
    rfl
  · unfold gAdd
    rw [rm_rm]
    simp [h0]

/-- Two ghosts, two arrays. -/
structure L2 (w0 wr : World) (Fa Fb : Nat → Prop) (ga gb lim : Nat) (La Lb : List Int) (na nb b1 b2 : Nat) (v1 v2 : Value) (xs ys : List Int) : Prop where
  A : LS w0 wr Fa ga lim La na b1 v1 xs
  B : LS w0 wr Fb gb lim Lb nb b2 v2 ys
  dis : ∀ i, Fa i → ¬ Fb i
  nb1 : 0 < xs.length → ¬ Fb b1
  na2 : 0 < ys.length → ¬ Fa b2

section
variable {w0 wr w' : World} {Fa Fb F' : Nat → Prop} {ga gb lim : Nat} {La Lb L' : List Int} {na nb n' b1 b2 : Nat} {v1 v2 : Value} {xs ys : List Int}

theorem L2.swap (l : L2 w0 wr Fa Fb ga gb lim La Lb na nb b1 b2 v1 v2 xs ys) : L2 w0 wr Fb Fa gb ga lim Lb La nb na b2 b1 v2 v1 ys xs :=
  ⟨l.B, l.A, fun i hb ha => l.dis i ha hb, l.na2, l.nb1⟩

theorem L2.stepA (l : L2 w0 wr Fa Fb ga gb lim La Lb na nb b1 b2 v1 v2 xs ys) (g : Ghost w' F' ga lim L' n') (s : Stp wr w' Fa) (hF : ∀ i, F' i → Fa i ∨ wr.heap.size ≤ i) :
    L2 w0 w' F' Fb ga gb lim L' Lb n' nb b1 b2 v1 v2 xs ys := by
  refine ⟨l.A.add g s hF, ⟨l.B.g.frame s (fun i hb ha => l.dis i ha hb), l.B.a.stp s l.na2, l.B.nb, l.B.bel.trans (s.below l.A.bel.size l.A.fw), l.B.fw, l.B.hb⟩, fun i hi hb => ?_, l.nb1, fun h hi => ?_⟩
  · rcases hF i hi with h1 | h1
    · exact l.dis i h1 hb
    · have := l.B.g.lt i hb; omega
  · rcases hF b2 hi with h1 | h1
    · exact l.na2 h h1
    · have := l.B.a.lt h; omega

theorem L2.stepB (l : L2 w0 wr Fa Fb ga gb lim La Lb na nb b1 b2 v1 v2 xs ys) (g : Ghost w' F' gb lim L' n') (s : Stp wr w' Fb) (hF : ∀ i, F' i → Fb i ∨ wr.heap.size ≤ i) :
    L2 w0 w' Fa F' ga gb lim La L' na n' b1 b2 v1 v2 xs ys := (l.swap.stepA g s hF).swap

theorem L2.drew (l : L2 w0 wr Fa Fb ga gb lim La Lb na nb b1 b2 v1 v2 xs ys) : L2 w0 wr.drew Fa Fb ga gb lim La Lb na nb b1 b2 v1 v2 xs ys :=
  l.stepA (l.A.g.frame (Stp.drewN wr 1 (fun _ => False)) (fun _ _ h => h)) (Stp.drewN wr 1 Fa) (fun _ h => .inl h)
end

theorem IsRow.stp {k : IntKind} {w w' : World} {a : Option Addr} {len cap : Nat} {zs : List Int} (h : IsRow k w a len cap zs) (s : Stp w w' (fun _ => False)) : IsRow k w' a len cap zs := by
  rcases h with h | ⟨x, h1, h2, h3, h4, h5, h6⟩
  · exact .inl h
  · refine .inr ⟨x, h1, h2, h3, h4, fun i hi => ?_, h6⟩
    have := h5 i hi
    rw [World.cell?_of_block (w := w) (s.block _ (World.block_lt_of_cell? w _ this) (fun f => f))]
    exact this

theorem ghost_forget_b {w : World} {F : Nat → Prop} {gb lim n : Nat} {L : List Int} (g : Ghost w F gb lim L n) {x : Int} (hw : (Lit.int .u64 x).wf = true) {b : Bool} (hb : Hid (decide (x ∈ L) = b)) :
    Calls Try.prog 11 #[.pointer (some ⟨gb, 0, none⟩), .int .u64 x] w fun e w' => e = .returned (.bool b) ∧ Ghost w' F gb lim (rm L x) n ∧ Stp w w' F := by
  have := ghost_forget g hw
  rw [hb.out] at this
  exact this

end Go.Proofs.Qxb6603426a
