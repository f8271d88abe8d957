/-
  THE PLAIN LAWS OF THE RECENCY LIST: a doubly linked list over node numbers, with a map from a hash to its node. No Go in sight.
-/
import Derived.Test.Qxb6603426aPlain
namespace Go.Proofs.Qxb6603426a
open Go.Maps

/-- The first of B, or d. -/
def headOr : List Nat → Int → Int
  | [], d => d
  | b :: _, _ => (b : Int)
/-- The last of A, or d. -/
def lastOr : List Nat → Int → Int
  | [], d => d
  | a :: r, _ => lastOr r (a : Int)

theorem headOr_append (A B : List Nat) (d : Int) : headOr (A ++ B) d = headOr A (headOr B d) := by cases A <;> rfl
theorem lastOr_append : ∀ (A B : List Nat) (d : Int), lastOr (A ++ B) d = lastOr B (lastOr A d)
  | [], _, _ => rfl
  | a :: r, B, _ => lastOr_append r B (a : Int)

/-- The nodes of the list stand linked: p ahead of the first, q behind the last. -/
def Links (ps ns : List Int) : Int → List Nat → Int → Prop
  | _, [], _ => True
  | p, n :: r, q => ps[n]? = some p ∧ ns[n]? = some (headOr r q) ∧ Links ps ns (n : Int) r q

theorem links_append {ps ns : List Int} : ∀ (A B : List Nat) (p q : Int), Links ps ns p (A ++ B) q ↔ Links ps ns p A (headOr B q) ∧ Links ps ns (lastOr A p) B q
  | [], B, p, q => by simp [Links, lastOr]
  | a :: r, B, p, q => by
    simp only [List.cons_append, Links, lastOr, headOr_append]
    rw [links_append r B (a : Int) q]
    constructor
    · rintro ⟨h1, h2, h3, h4⟩; exact ⟨⟨h1, h2, h3⟩, h4⟩
    · rintro ⟨⟨h1, h2, h3⟩, h4⟩; exact ⟨h1, h2, h3, h4⟩

theorem links_frame {ps ns ps' ns' : List Int} : ∀ (A : List Nat) (p q : Int), (∀ i ∈ A, ps'[i]? = ps[i]?) → (∀ i ∈ A, ns'[i]? = ns[i]?) → Links ps ns p A q → Links ps' ns' p A q
  | [], _, _, _, _, _ => trivial
  | a :: r, p, q, h1, h2, h => by
    obtain ⟨k1, k2, k3⟩ := h
    exact ⟨by rw [h1 a (by simp)]; exact k1, by rw [h2 a (by simp)]; exact k2, links_frame r (a : Int) q (fun i hi => h1 i (by simp [hi])) (fun i hi => h2 i (by simp [hi])) k3⟩

/-- What stands behind the last is another. -/
theorem links_end {ps ns : List Int} {A : List Nat} {a : Nat} {p q q' : Int} (hn : (A ++ [a]).Nodup) (h : Links ps ns p (A ++ [a]) q) : Links ps (ns.set a q') p (A ++ [a]) q' := by
  rw [links_append] at h ⊢
  obtain ⟨h1, h2, h3, _⟩ := h
  have ha : a ∉ A := fun hm => (List.nodup_append.1 hn).2.2 a hm a (by simp) rfl
  refine ⟨links_frame A p _ (fun _ _ => rfl) (fun i hi => List.getElem?_set_ne (by intro e; subst e; exact ha hi)) h1, h2, ?_, trivial⟩
  rw [List.getElem?_set_self (List.getElem?_eq_some_iff.1 h3).1]
  rfl

/-- What stands ahead of the first is another. -/
theorem links_front {ps ns : List Int} {B : List Nat} {b : Nat} {p p' q : Int} (hn : (b :: B).Nodup) (h : Links ps ns p (b :: B) q) : Links (ps.set b p') ns p' (b :: B) q := by
  obtain ⟨h1, h2, h3⟩ := h
  have hb : b ∉ B := (List.nodup_cons.1 hn).1
  exact ⟨List.getElem?_set_self (List.getElem?_eq_some_iff.1 h1).1, h2, links_frame B _ _ (fun i hi => List.getElem?_set_ne (by intro e; subst e; exact hb hi)) (fun _ _ => rfl) h3⟩

/-- The last, or none. -/
theorem split_last : ∀ (A : List Nat), A = [] ∨ ∃ A' a, A = A' ++ [a]
  | [] => .inl rfl
  | a :: r => by
    right
    rcases split_last r with rfl | ⟨A', b, rfl⟩
    · exact ⟨[], a, rfl⟩
    · exact ⟨a :: A', b, rfl⟩

def nsCut (ns : List Int) (p q : Int) : List Int := if 0 ≤ p then ns.set p.toNat q else ns

/-- Node n is taken out: its neighbours are linked to one another. -/
theorem links_cut {ps ns : List Int} {A B : List Nat} {n : Nat} (hn : (A ++ n :: B).Nodup) (h : Links ps ns (-1) (A ++ n :: B) (-1)) (p q : Int) (hp : p = lastOr A (-1)) (hq : q = headOr B (-1)) :
    Links ((nsCut ps q p).set n (-1)) ((nsCut ns p q).set n (-1)) (-1) (A ++ B) (-1) ∧ ps[n]? = some p ∧ ns[n]? = some q := by
  rw [links_append] at h
  obtain ⟨h1, h2, h3, h4⟩ := h
  have nA : A.Nodup := (List.nodup_append.1 hn).1
  have nB : B.Nodup := (List.nodup_cons.1 (List.nodup_append.1 hn).2.1).2
  have nAn : n ∉ A := fun hm => (List.nodup_append.1 hn).2.2 n hm n (by simp) rfl
  have nBn : n ∉ B := (List.nodup_cons.1 (List.nodup_append.1 hn).2.1).1
  have nAB : ∀ a ∈ A, a ∉ B := fun a ha hb => (List.nodup_append.1 hn).2.2 a ha a (by simp [hb]) rfl
  refine ⟨?_, by rw [hp]; exact h2, by rw [hq]; exact h3⟩
  rw [links_append, ← hq, ← hp]
  constructor
  · -- the front part
    have hA : Links ps (nsCut ns p q) (-1) A q := by
      rcases split_last A with rfl | ⟨A', a, rfl⟩
      · trivial
      · have e : p = (a : Int) := by rw [hp, lastOr_append]; rfl
        have : nsCut ns p q = ns.set a q := by rw [e]; simp [nsCut]
        rw [this]
        exact links_end nA h1
    refine links_frame A _ _ (fun i hi => ?_) (fun i hi => ?_) hA
    · rw [List.getElem?_set_ne (by intro e; subst e; exact nAn hi)]
      unfold nsCut
      split
      · rename_i hq0
        cases B with
        | nil => exfalso; rw [hq] at hq0; simp [headOr] at hq0
        | cons b B' =>
          have e : q.toNat = b := by rw [hq]; simp [headOr]
          rw [e, List.getElem?_set_ne (fun e' => nAB i hi (by simp [e']))]
      · rfl
    · rw [List.getElem?_set_ne (by intro e; subst e; exact nAn hi)]
  · -- the rear part
    have hB : Links (nsCut ps q p) ns p B (-1) := by
      cases B with
      | nil => trivial
      | cons b B' =>
        have e : q = (b : Int) := by rw [hq]; rfl
        have : nsCut ps q p = ps.set b p := by rw [e]; simp [nsCut]
        rw [this]
        exact links_front nB h4
    refine links_frame B _ _ (fun i hi => ?_) (fun i hi => ?_) hB
    · rw [List.getElem?_set_ne (by intro e; subst e; exact nBn hi)]
    · rw [List.getElem?_set_ne (by intro e; subst e; exact nBn hi)]
      unfold nsCut
      split
      · rename_i hp0
        rcases split_last A with rfl | ⟨A', a, rfl⟩
        · exfalso; rw [hp] at hp0; simp [lastOr] at hp0
        · have e : p.toNat = a := by rw [hp, lastOr_append]; simp [lastOr]
          rw [e, List.getElem?_set_ne (by intro e'; subst e'; exact nAB a (by simp) hi)]
      · rfl

/-- THE RECENCY LIST L as keys, links, head, tail and a map. -/
structure LInv (ks ps ns : List Int) (hd tl : Int) (D : DataW Unit) (L : List Int) (pos : Int → Nat) : Prop where
  lp : ps.length = ks.length
  ln : ns.length = ks.length
  lk : Links ps ns (-1) (L.map pos) (-1)
  hh : hd = headOr (L.map pos) (-1)
  ht : tl = lastOr (L.map pos) (-1)
  key : ∀ x ∈ L, ks[pos x]? = some x
  mp : MapIs D pos L
  nd : L.Nodup

theorem lInv_empty : LInv [] [] [] (-1) (-1) (.map []) [] (fun _ => 0) :=
  ⟨rfl, rfl, trivial, rfl, rfl, fun x hx => by simp at hx, mapIs_empty, List.nodup_nil⟩

theorem LInv.lt {ks ps ns : List Int} {hd tl : Int} {D : DataW Unit} {L : List Int} {pos : Int → Nat} (l : LInv ks ps ns hd tl D L pos) {x : Int} (hx : x ∈ L) : pos x < ks.length :=
  (List.getElem?_eq_some_iff.1 (l.key x hx)).1

theorem nodup_map {ks : List Int} {pos : Int → Nat} : ∀ {L : List Int}, (∀ x ∈ L, ks[pos x]? = some x) → L.Nodup → (L.map pos).Nodup
  | [], _, _ => List.nodup_nil
  | a :: r, hk, hn => by
    obtain ⟨h1, h2⟩ := List.nodup_cons.1 hn
    rw [List.map_cons, List.nodup_cons]
    refine ⟨fun hm => ?_, nodup_map (fun x hx => hk x (by simp [hx])) h2⟩
    obtain ⟨y, hy, e⟩ := List.mem_map.1 hm
    have k1 := hk a (by simp)
    have k2 := hk y (by simp [hy])
    rw [e, k1] at k2
    have := Option.some.inj k2
    subst this
    exact h1 hy

theorem split_mem {L : List Int} {x : Int} (hx : x ∈ L) : ∃ A B, L = A ++ x :: B := List.append_of_mem hx

theorem rm_split {A B : List Int} {x : Int} (hn : (A ++ x :: B).Nodup) : rm (A ++ x :: B) x = A ++ B := by
  have h1 : x ∉ A := fun hm => (List.nodup_append.1 hn).2.2 x hm x (by simp) rfl
  have h2 : x ∉ B := (List.nodup_cons.1 (List.nodup_append.1 hn).2.1).1
  have e : rm (A ++ x :: B) x = rm A x ++ rm (x :: B) x := by simp [rm]
  have e2 : rm (x :: B) x = rm B x := by simp [rm]
  rw [e, e2, rm_of_not_mem h1, rm_of_not_mem h2]

/-- 'unlink'. -/
theorem LInv.unlink {ks ps ns : List Int} {hd tl : Int} {D : DataW Unit} {L : List Int} {pos : Int → Nat} (l : LInv ks ps ns hd tl D L pos) {x : Int} (hx : x ∈ L) :
    ∃ p q : Int, ps[pos x]? = some p ∧ ns[pos x]? = some q ∧ (p = -1 ∨ ∃ a : Nat, p = a ∧ a < ks.length) ∧ (q = -1 ∨ ∃ b : Nat, q = b ∧ b < ks.length) ∧
      LInv ks ((nsCut ps q p).set (pos x) (-1)) ((nsCut ns p q).set (pos x) (-1)) (if 0 ≤ p then hd else q) (if 0 ≤ q then tl else p) (D.del (ky x)) (rm L x) pos := by
  obtain ⟨A, B, rfl⟩ := split_mem hx
  have hnd := nodup_map l.key l.nd
  have lk := l.lk
  rw [List.map_append, List.map_cons] at hnd lk
  obtain ⟨h1, h2, h3⟩ := links_cut hnd lk _ _ rfl rfl
  have hlast : lastOr (A.map pos) (-1) = -1 ∨ ∃ a : Nat, lastOr (A.map pos) (-1) = a ∧ a < ks.length ∧ ∃ A', A.map pos = A' ++ [a] := by
    rcases split_last (A.map pos) with e | ⟨A', a, e⟩
    · left; rw [e]; rfl
    · right
      refine ⟨a, by rw [e, lastOr_append]; rfl, ?_, A', e⟩
      obtain ⟨y, hy, ey⟩ := List.mem_map.1 (show a ∈ A.map pos by rw [e]; simp)
      have := l.lt (x := y) (by simp [hy])
      omega
  have hfirst : headOr (B.map pos) (-1) = -1 ∨ ∃ b : Nat, headOr (B.map pos) (-1) = b ∧ b < ks.length ∧ ∃ B', B.map pos = b :: B' := by
    cases B with
    | nil => left; rfl
    | cons y B' =>
      right
      exact ⟨pos y, rfl, l.lt (by simp), B'.map pos, rfl⟩
  refine ⟨_, _, h2, h3, ?_, ?_, ⟨?_, ?_, ?_, ?_, ?_, ?_, l.mp.del l.nd x, nodup_rm x l.nd⟩⟩
  · rcases hlast with h | ⟨a, h, h', _⟩
    · exact .inl h
    · exact .inr ⟨a, h, h'⟩
  · rcases hfirst with h | ⟨a, h, h', _⟩
    · exact .inl h
    · exact .inr ⟨a, h, h'⟩
  · rw [List.length_set]; unfold nsCut; split <;> simp [l.lp]
  · rw [List.length_set]; unfold nsCut; split <;> simp [l.ln]
  · rw [rm_split l.nd, List.map_append]
    exact h1
  · rw [rm_split l.nd, List.map_append, headOr_append]
    rcases hlast with h | ⟨a, h, h', A', e⟩
    · rw [h, if_neg (by omega)]
      have hA : A.map pos = [] := by
        rcases split_last (A.map pos) with e | ⟨A', a, e⟩
        · exact e
        · rw [e, lastOr_append] at h; simp [lastOr] at h
      rw [hA]
      rfl
    · rw [h, if_pos (by omega), l.hh, List.map_append, headOr_append]
      cases hA : A.map pos with
      | nil => rw [hA] at e; simp at e
      | cons c C => rfl
  · rw [rm_split l.nd, List.map_append, lastOr_append]
    rcases hfirst with h | ⟨b, h, h', B', e⟩
    · rw [h, if_neg (by omega)]
      have hB : B.map pos = [] := by
        cases hB : B.map pos with
        | nil => rfl
        | cons c C => rw [hB] at h; simp [headOr] at h
      rw [hB]
      rfl
    · rw [h, if_pos (by omega), l.ht, List.map_append, lastOr_append, List.map_cons, e]
      rfl
  · intro y hy
    exact l.key y (mem_rm.1 hy).1

theorem getElem?_left {l : List Int} {x y : Int} {i : Nat} (h : l[i]? = some x) : (l ++ [y])[i]? = some x := by
  rw [List.getElem?_append_left (List.getElem?_eq_some_iff.1 h).1]
  exact h

/-- A hash that is not there goes to the newest end. -/
theorem LInv.push {ks ps ns : List Int} {hd tl : Int} {D : DataW Unit} {L : List Int} {pos : Int → Nat} (l : LInv ks ps ns hd tl D L pos) {h : Int} (hh : h ∉ L) :
    (tl = -1 ∨ ∃ a : Nat, tl = a ∧ a < ks.length) ∧
    LInv (ks ++ [h]) (ps ++ [tl]) (nsCut (ns ++ [-1]) tl (ks.length : Int)) (if 0 ≤ tl then hd else (ks.length : Int)) (ks.length : Int) (D.put (ky h) (el ks.length)) (L ++ [h]) (upd pos h ks.length) := by
  have hnd := nodup_map l.key l.nd
  have hmap : (L ++ [h]).map (upd pos h ks.length) = L.map pos ++ [ks.length] := by
    rw [List.map_append, List.map_cons, List.map_nil, upd_same]
    congr 1
    exact List.map_congr_left (fun x hx => upd_other (fun e => hh (e ▸ hx)))
  have hlt : ∀ i ∈ L.map pos, i < ks.length := fun i hi => by
    obtain ⟨y, hy, rfl⟩ := List.mem_map.1 hi
    exact l.lt hy
  have htl : tl = -1 ∨ ∃ a : Nat, tl = a ∧ a < ks.length ∧ ∃ A', L.map pos = A' ++ [a] := by
    rcases split_last (L.map pos) with e | ⟨A', a, e⟩
    · left; rw [l.ht, e]; rfl
    · right
      exact ⟨a, by rw [l.ht, e, lastOr_append]; rfl, hlt a (by rw [e]; simp), A', e⟩
  have hkey : ∀ x ∈ L ++ [h], (ks ++ [h])[upd pos h ks.length x]? = some x := by
    intro x hx
    by_cases e : x = h
    · subst e; rw [upd_same]; simp
    · rw [upd_other e]
      have hxL : x ∈ L := by
        rcases List.mem_append.1 hx with hx | hx
        · exact hx
        · simp [e] at hx
      exact getElem?_left (l.key x hxL)
  have hfr : Links (ps ++ [tl]) (ns ++ [-1]) (-1) (L.map pos) (-1) :=
    links_frame _ _ _ (fun i hi => List.getElem?_append_left (by rw [l.lp]; exact hlt i hi)) (fun i hi => List.getElem?_append_left (by rw [l.ln]; exact hlt i hi)) l.lk
  refine ⟨?_, ⟨by simp [l.lp], by unfold nsCut; split <;> simp [l.ln], ?_, ?_, ?_, hkey, ?_, ?_⟩⟩
  · rcases htl with e | ⟨a, e, e', _⟩
    · exact .inl e
    · exact .inr ⟨a, e, e'⟩
  · rw [hmap, links_append]
    rcases htl with e | ⟨a, e, ha, A', eA⟩
    · have hL : L.map pos = [] := by
        rcases split_last (L.map pos) with e' | ⟨A', a, e'⟩
        · exact e'
        · rw [l.ht, e', lastOr_append] at e; simp [lastOr] at e
      rw [hL, e]
      refine ⟨trivial, ?_, ?_, trivial⟩
      · simp [lastOr, ← l.lp]
      · simp [nsCut, headOr, ← l.ln]
    · have hcut : nsCut (ns ++ [-1]) tl (ks.length : Int) = (ns ++ [-1]).set a (ks.length : Int) := by rw [e]; simp [nsCut]
      rw [hcut]
      refine ⟨?_, ?_, ?_, trivial⟩
      · rw [eA] at hfr hnd ⊢
        exact links_end hnd hfr
      · rw [← l.ht, ← l.lp]; simp
      · rw [List.getElem?_set_ne (by omega), ← l.ln]; simp [headOr]
  · rw [hmap, headOr_append]
    rcases htl with e | ⟨a, e, ha, A', eA⟩
    · have hL : L.map pos = [] := by
        rcases split_last (L.map pos) with e' | ⟨A', a, e'⟩
        · exact e'
        · rw [l.ht, e', lastOr_append] at e; simp [lastOr] at e
      rw [e, if_neg (by omega), hL]
      rfl
    · rw [e, if_pos (by omega), l.hh]
      cases hL : L.map pos with
      | nil => rw [hL] at eA; simp at eA
      | cons c C => rfl
  · rw [hmap, lastOr_append]; rfl
  · have := l.mp.put l.nd h ks.length
    rwa [rm_of_not_mem hh] at this
  · have := nodup_snoc (h := h) l.nd
    rwa [rm_of_not_mem hh] at this

/-- The oldest is the head's. -/
theorem LInv.oldest {ks ps ns : List Int} {hd tl : Int} {D : DataW Unit} {L : List Int} {pos : Int → Nat} (l : LInv ks ps ns hd tl D L pos) (hne : 0 < L.length) : ∃ x r, L = x :: r ∧ hd = (pos x : Int) ∧ rm L x = r := by
  cases L with
  | nil => simp at hne
  | cons x r => exact ⟨x, r, rfl, l.hh, rm_head l.nd⟩

/-- What the bounded list's add comes to is what the ghost's does. -/
theorem gAdd_lru {lim : Nat} {L : List Int} {h : Int} (hl : L.length ≤ lim) : (if lim < (rm L h ++ [h]).length then (rm L h ++ [h]).drop 1 else rm L h ++ [h]) = gAdd lim L h := by
  by_cases h0 : lim = 0
  · subst h0
    have : L = [] := List.eq_nil_of_length_eq_zero (by omega)
    subst this
    simp [gAdd, rm]
  · unfold gAdd
    rw [if_neg h0]

end Go.Proofs.Qxb6603426a
