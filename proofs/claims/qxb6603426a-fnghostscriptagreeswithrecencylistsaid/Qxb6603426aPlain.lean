/-
  THE PLAIN LAWS OF THE GHOST: what a map from hashes to places and a row of hashes say of a list of remembered hashes, oldest first. No Go in sight.
-/
import Derived.Maps.OwnSet
namespace Go.Proofs.Qxb6603426a
open Go.Maps

/-- The list without h. -/
def rm (L : List Int) (h : Int) : List Int := L.filter (fun x => !(x == h))

theorem mem_rm {L : List Int} {h x : Int} : x ∈ rm L h ↔ x ∈ L ∧ x ≠ h := by
  simp [rm, List.mem_filter]

theorem rm_of_not_mem {L : List Int} {h : Int} (hn : h ∉ L) : rm L h = L := by
  unfold rm
  rw [List.filter_eq_self]
  intro a ha
  have : a ≠ h := fun e => hn (e ▸ ha)
  simp [this]

theorem rm_rm (L : List Int) (h : Int) : rm (rm L h) h = rm L h := rm_of_not_mem (by simp [mem_rm])

theorem nodup_rm {L : List Int} (h : Int) (hn : L.Nodup) : (rm L h).Nodup := hn.filter _

theorem length_rm {L : List Int} (h : Int) (hn : L.Nodup) : (rm L h).length + (if h ∈ L then 1 else 0) = L.length := by
  induction L with
  | nil => simp [rm]
  | cons a r ih =>
    obtain ⟨h1, h2⟩ := List.nodup_cons.1 hn
    have ih' := ih h2
    by_cases e : a = h
    · subst e
      have : rm (a :: r) a = rm r a := by simp [rm]
      rw [this, rm_of_not_mem h1]
      simp
    · have : rm (a :: r) h = a :: rm r h := by simp [rm, e]
      rw [this]
      have e' : h ≠ a := fun x => e x.symm
      simp only [List.length_cons, List.mem_cons, e', false_or]
      omega

theorem length_rm_le (L : List Int) (h : Int) : (rm L h).length ≤ L.length := List.length_filter_le _ _

/-- WHAT add DOES TO THE LIST OF REMEMBERED HASHES. -/
def gAdd (lim : Nat) (L : List Int) (h : Int) : List Int :=
  if lim = 0 then L else if lim < (rm L h ++ [h]).length then (rm L h ++ [h]).drop 1 else rm L h ++ [h]

theorem nodup_snoc {L : List Int} {h : Int} (hn : L.Nodup) : (rm L h ++ [h]).Nodup := by
  rw [List.nodup_append]
  refine ⟨nodup_rm h hn, by simp, fun a ha b hb => ?_⟩
  simp only [List.mem_singleton] at hb
  subst hb
  exact (mem_rm.1 ha).2

theorem gAdd_nodup {lim : Nat} {L : List Int} {h : Int} (hn : L.Nodup) : (gAdd lim L h).Nodup := by
  unfold gAdd
  split
  · exact hn
  · split
    · exact (nodup_snoc hn).sublist (List.drop_sublist _ _)
    · exact nodup_snoc hn

theorem gAdd_length {lim : Nat} {L : List Int} {h : Int} (hl : L.length ≤ lim) : (gAdd lim L h).length ≤ lim := by
  have h1 := length_rm_le L h
  unfold gAdd
  split
  · exact hl
  · split
    · simp only [List.length_drop, List.length_append, List.length_cons, List.length_nil]; omega
    · omega

theorem gAdd_wf {lim : Nat} {L : List Int} {h : Int} (hL : ∀ x ∈ L, (Lit.int .u64 x).wf = true) (hh : (Lit.int .u64 h).wf = true) : ∀ x ∈ gAdd lim L h, (Lit.int .u64 x).wf = true := by
  have h1 : ∀ x ∈ rm L h ++ [h], (Lit.int .u64 x).wf = true := by
    intro x hx
    rcases List.mem_append.1 hx with hx | hx
    · exact hL x (mem_rm.1 hx).1
    · simp only [List.mem_singleton] at hx; subst hx; exact hh
  unfold gAdd
  split
  · exact hL
  · split
    · exact fun x hx => h1 x (List.mem_of_mem_drop hx)
    · exact h1

/-! ### the map and the row -/
abbrev ky (x : Int) : Lit := .int .u64 x
abbrev el (p : Nat) : DataW Unit := .lit (.int .i64 (p : Int))

theorem ky_key (x : Int) : WideAt.IsKeyLit (ky x) := trivial
theorem ky_ne {x y : Int} (h : x ≠ y) : ky x ≠ ky y := fun e => h (by injection e)

/-- The map D sends just the hashes of L to their places. -/
structure MapIs (D : DataW Unit) (pos : Int → Nat) (L : List Int) : Prop where
  keys : ∀ x, Maps.has D (ky x) = decide (x ∈ L)
  vals : ∀ x ∈ L, D.atKey (ky x) (el 0) = el (pos x)
  size : Maps.size D = L.length
  tidy : Tidy D

/-- .. and the hashes of L stand in the row hs at their places, from 'lo' on, in L's order. -/
structure GInv (hs : List Int) (lo : Nat) (D : DataW Unit) (L : List Int) (pos : Int → Nat) : Prop where
  mp : MapIs D pos L
  nd : L.Nodup
  srt : L.Pairwise (fun a b => pos a < pos b)
  pl : ∀ x ∈ L, lo ≤ pos x ∧ hs[pos x]? = some x

theorem mapIs_empty : MapIs (.map []) (fun _ => 0) [] := ⟨fun x => by simp [Maps.has], fun x hx => by simp at hx, rfl, tidy_empty⟩

theorem gInv_empty (hs : List Int) (lo : Nat) : GInv hs lo (.map []) [] (fun _ => 0) :=
  ⟨mapIs_empty, List.nodup_nil, List.Pairwise.nil, fun x hx => by cases hx⟩

def upd (pos : Int → Nat) (h : Int) (p : Nat) : Int → Nat := fun x => if x = h then p else pos x
theorem upd_same (pos : Int → Nat) (h : Int) (p : Nat) : upd pos h p h = p := by simp [upd]
theorem upd_other {pos : Int → Nat} {h x : Int} {p : Nat} (hne : x ≠ h) : upd pos h p x = pos x := by simp [upd, hne]

theorem MapIs.put {D : DataW Unit} {pos : Int → Nat} {L : List Int} (m : MapIs D pos L) (nd : L.Nodup) (h : Int) (p : Nat) : MapIs (D.put (ky h) (el p)) (upd pos h p) (rm L h ++ [h]) where
  keys x := by
    by_cases e : x = h
    · subst e
      rw [has_put_same m.tidy.isMap (ky_key x)]
      simp
    · rw [has_put_other (ky_ne e), m.keys x]
      simp [mem_rm, e]
  vals x hx := by
    by_cases e : x = h
    · subst e
      rw [atKey_put_same m.tidy.isMap (ky_key x), upd_same]
    · rw [atKey_put_other (ky_ne e), upd_other e]
      refine m.vals x ?_
      rcases List.mem_append.1 hx with hx | hx
      · exact (mem_rm.1 hx).1
      · simp [e] at hx
  size := by
    rw [size_put m.tidy, m.keys h, m.size]
    have := length_rm h nd
    simp only [List.length_append, List.length_cons, List.length_nil]
    by_cases e : h ∈ L <;> simp [e] at this ⊢ <;> omega
  tidy := m.tidy.put (ky_key h) _

theorem MapIs.del {D : DataW Unit} {pos : Int → Nat} {L : List Int} (m : MapIs D pos L) (nd : L.Nodup) (h : Int) : MapIs (D.del (ky h)) pos (rm L h) where
  keys x := by
    by_cases e : x = h
    · subst e
      rw [has_del_same]
      simp [mem_rm]
    · rw [has_del_other (ky_ne e), m.keys x]
      simp [mem_rm, e]
  vals x hx := by
    have := mem_rm.1 hx
    rw [atKey_del_other (ky_ne this.2)]
    exact m.vals x this.1
  size := by
    have h1 := size_del (k := ky h) m.tidy
    have h2 := length_rm h nd
    rw [m.keys h, m.size] at h1
    by_cases e : h ∈ L <;> simp [e] at h1 h2 <;> omega
  tidy := m.tidy.del _

theorem GInv.lt {hs : List Int} {lo : Nat} {D : DataW Unit} {L : List Int} {pos : Int → Nat} (g : GInv hs lo D L pos) {x : Int} (hx : x ∈ L) : pos x < hs.length :=
  (List.getElem?_eq_some_iff.1 (g.pl x hx).2).1

theorem GInv.first_lt {hs : List Int} {lo : Nat} {D : DataW Unit} {L : List Int} {pos : Int → Nat} (g : GInv hs lo D L pos) (hne : 0 < L.length) : lo < hs.length := by
  obtain ⟨x, hx⟩ := List.exists_mem_of_length_pos hne
  exact Nat.lt_of_le_of_lt (g.pl x hx).1 (g.lt hx)

/-- add's first step: the hash goes to the row's end. -/
theorem GInv.push {hs : List Int} {lo : Nat} {D : DataW Unit} {L : List Int} {pos : Int → Nat} (g : GInv hs lo D L pos) (h : Int) (hlo : lo ≤ hs.length) :
    GInv (hs ++ [h]) lo (D.put (ky h) (el hs.length)) (rm L h ++ [h]) (upd pos h hs.length) where
  mp := g.mp.put g.nd h hs.length
  nd := nodup_snoc g.nd
  srt := by
    rw [List.pairwise_append]
    refine ⟨?_, by simp, fun a ha b hb => ?_⟩
    · refine List.Pairwise.imp_of_mem ?_ (g.srt.filter (fun x => !(x == h)))
      intro a b ha hb hab
      rw [upd_other (mem_rm.1 ha).2, upd_other (mem_rm.1 hb).2]
      exact hab
    · simp only [List.mem_singleton] at hb
      subst hb
      rw [upd_same, upd_other (mem_rm.1 ha).2]
      exact g.lt (mem_rm.1 ha).1
  pl x hx := by
    by_cases e : x = h
    · subst e
      rw [upd_same]
      exact ⟨hlo, by simp⟩
    · rw [upd_other e]
      have hxL : x ∈ L := by
        rcases List.mem_append.1 hx with hx | hx
        · exact (mem_rm.1 hx).1
        · simp [e] at hx
      refine ⟨(g.pl x hxL).1, ?_⟩
      rw [List.getElem?_append_left (g.lt hxL)]
      exact (g.pl x hxL).2

/-- The first of L is the one whose place is least. -/
theorem head_of_least {L : List Int} {pos : Int → Nat} (srt : L.Pairwise (fun a b => pos a < pos b)) {x : Int} (hx : x ∈ L) (hle : ∀ y ∈ L, pos x ≤ pos y) : ∃ L', L = x :: L' ∧ ∀ y ∈ L', pos x < pos y := by
  cases L with
  | nil => cases hx
  | cons a r =>
    obtain ⟨h1, h2⟩ := List.pairwise_cons.1 srt
    rcases List.mem_cons.1 hx with e | hx
    · subst e
      exact ⟨r, rfl, h1⟩
    · have := h1 x hx
      have := hle a (by simp)
      omega

theorem rm_head {x : Int} {L : List Int} (hn : (x :: L).Nodup) : rm (x :: L) x = L := by
  have h1 : rm (x :: L) x = rm L x := by simp [rm]
  rw [h1, rm_of_not_mem (List.nodup_cons.1 hn).1]

/-- The oldest is dropped. -/
theorem GInv.hit {hs : List Int} {lo : Nat} {D : DataW Unit} {L : List Int} {pos : Int → Nat} (g : GInv hs lo D L pos) {x : Int} (hx : x ∈ L) (hp : pos x = lo) :
    ∃ L', L = x :: L' ∧ GInv hs (lo + 1) (D.del (ky x)) L' pos := by
  obtain ⟨L', rfl, hlt⟩ := head_of_least g.srt hx (fun y hy => by rw [hp]; exact (g.pl y hy).1)
  refine ⟨L', rfl, ⟨?_, (List.nodup_cons.1 g.nd).2, (List.pairwise_cons.1 g.srt).2, fun y hy => ⟨?_, (g.pl y (by simp [hy])).2⟩⟩⟩
  · have := g.mp.del g.nd x
    rwa [rm_head g.nd] at this
  · have := hlt y hy
    omega

/-- Nothing stands at the first place. -/
theorem GInv.miss {hs : List Int} {lo : Nat} {D : DataW Unit} {L : List Int} {pos : Int → Nat} (g : GInv hs lo D L pos) (hn : ∀ y ∈ L, pos y ≠ lo) : GInv hs (lo + 1) D L pos :=
  ⟨g.mp, g.nd, g.srt, fun y hy => ⟨by have := (g.pl y hy).1; have := hn y hy; omega, (g.pl y hy).2⟩⟩

theorem GInv.forget {hs : List Int} {lo : Nat} {D : DataW Unit} {L : List Int} {pos : Int → Nat} (g : GInv hs lo D L pos) (h : Int) : GInv hs lo (D.del (ky h)) (rm L h) pos :=
  ⟨g.mp.del g.nd h, nodup_rm h g.nd, g.srt.filter _, fun y hy => g.pl y (mem_rm.1 hy).1⟩

/-! ### the moving down -/
/-- Behind the places from 0 to i: 'k' hashes have been moved. -/
structure CInv (hs : List Int) (i k : Nat) (D : DataW Unit) (L : List Int) (pos : Int → Nat) : Prop where
  g : GInv hs 0 D L pos
  ki : k ≤ i
  il : i ≤ hs.length
  kl : k ≤ L.length
  done : ∀ j, j < k → ∃ x, L[j]? = some x ∧ pos x = j
  todo : ∀ x ∈ L.drop k, i ≤ pos x

theorem GInv.start {hs : List Int} {lo : Nat} {D : DataW Unit} {L : List Int} {pos : Int → Nat} (g : GInv hs lo D L pos) (hlo : lo ≤ hs.length) : CInv hs lo 0 D L pos :=
  ⟨⟨g.mp, g.nd, g.srt, fun x hx => ⟨Nat.zero_le _, (g.pl x hx).2⟩⟩, Nat.zero_le _, hlo, Nat.zero_le _, fun _ h => by omega, fun x hx => (g.pl x (by simpa using hx)).1⟩

/-- Who stands at place i and is remembered there is the next to be moved. -/
theorem CInv.next {hs : List Int} {i k : Nat} {D : DataW Unit} {L : List Int} {pos : Int → Nat} (c : CInv hs i k D L pos) {x : Int} (hx : x ∈ L) (hp : pos x = i) : L[k]? = some x := by
  have hsplit : L = L.take k ++ L.drop k := (List.take_append_drop k L).symm
  have hd : x ∈ L.drop k := by
    rw [hsplit] at hx
    rcases List.mem_append.1 hx with h | h
    · obtain ⟨j, hj, e⟩ := List.getElem_of_mem h
      have hjk : j < k := by simp at hj; omega
      obtain ⟨y, hy, hpy⟩ := c.done j hjk
      have : y = x := by
        have h1 : (L.take k)[j]? = some x := by rw [List.getElem?_eq_getElem hj, e]
        rw [List.getElem?_take_of_lt hjk, hy] at h1
        exact Option.some.inj h1
      subst this
      have := c.ki
      omega
    · exact h
  have srt : (L.drop k).Pairwise (fun a b => pos a < pos b) := c.g.srt.sublist (List.drop_sublist _ _)
  obtain ⟨L', e, _⟩ := head_of_least srt hd (fun y hy => by rw [hp]; exact c.todo y hy)
  have : (L.drop k)[0]? = some x := by rw [e]; rfl
  simpa using this

theorem mem_of_get {L : List Int} {k : Nat} {x : Int} (h : L[k]? = some x) : x ∈ L := List.mem_of_getElem? h

theorem drop_get {L : List Int} {k : Nat} {x : Int} (h : L[k]? = some x) : L.drop k = x :: L.drop (k + 1) := by
  obtain ⟨hk, e⟩ := List.getElem?_eq_some_iff.1 h
  rw [List.drop_eq_getElem_cons hk, e]

/-- A map that is told anew at a hash that is there. -/
theorem MapIs.reput {D : DataW Unit} {pos : Int → Nat} {L : List Int} (m : MapIs D pos L) {x : Int} (hx : x ∈ L) (p : Nat) : MapIs (D.put (ky x) (el p)) (upd pos x p) L where
  keys y := by
    by_cases e : y = x
    · subst e
      rw [has_put_same m.tidy.isMap (ky_key y)]
      simp [hx]
    · rw [has_put_other (ky_ne e), m.keys y]
  vals y hy := by
    by_cases e : y = x
    · subst e
      rw [atKey_put_same m.tidy.isMap (ky_key y), upd_same]
    · rw [atKey_put_other (ky_ne e), upd_other e]
      exact m.vals y hy
  size := by
    rw [size_put m.tidy, m.keys x, m.size]
    simp [hx]
  tidy := m.tidy.put (ky_key x) _

theorem CInv.hit {hs : List Int} {i k : Nat} {D : DataW Unit} {L : List Int} {pos : Int → Nat} (c : CInv hs i k D L pos) {x : Int} (hx : x ∈ L) (hp : pos x = i) :
    CInv (hs.set k x) (i + 1) (k + 1) (D.put (ky x) (el k)) L (upd pos x k) := by
  have hk := c.next hx hp
  have hkl : k < L.length := (List.getElem?_eq_some_iff.1 hk).1
  have hil : i < hs.length := by have := c.g.lt hx; omega
  have hki := c.ki
  have hdrop := drop_get hk
  -- who else of L stands where
  have hother : ∀ j y, L[j]? = some y → y ≠ x → j ≠ k := fun j y hj hne e => by subst e; rw [hk] at hj; exact hne (Option.some.inj hj).symm
  have hpos : ∀ y ∈ L, y ≠ x → (pos y < k) ∨ (i < pos y) := by
    intro y hy hne
    obtain ⟨j, hj, e⟩ := List.getElem_of_mem hy
    have hj' : L[j]? = some y := by rw [List.getElem?_eq_getElem hj, e]
    have hjk := hother j y hj' hne
    by_cases hlt : j < k
    · obtain ⟨z, hz, hpz⟩ := c.done j hlt
      rw [hj'] at hz
      have := Option.some.inj hz
      subst this
      left; omega
    · right
      have hyd : y ∈ L.drop (k + 1) := by
        have : (L.drop (k + 1))[j - (k + 1)]? = some y := by rw [List.getElem?_drop, show k + 1 + (j - (k + 1)) = j by omega]; exact hj'
        exact List.mem_of_getElem? this
      have srt : (L.drop k).Pairwise (fun a b => pos a < pos b) := c.g.srt.sublist (List.drop_sublist _ _)
      rw [hdrop] at srt
      have := (List.pairwise_cons.1 srt).1 y hyd
      omega
  refine ⟨⟨c.g.mp.reput hx k, c.g.nd, ?_, fun y hy => ⟨Nat.zero_le _, ?_⟩⟩, by omega, by simp; omega, hkl, fun j hj => ?_, fun y hy => ?_⟩
  · have srtAll : ∀ a b : Nat, ∀ (ha : a < L.length) (hb : b < L.length), a < b → upd pos x k L[a] < upd pos x k L[b] := by
      intro a b ha hb hab
      have ga : L[a]? = some L[a] := List.getElem?_eq_getElem ha
      have gb : L[b]? = some L[b] := List.getElem?_eq_getElem hb
      have hab' : pos L[a] < pos L[b] := List.pairwise_iff_getElem.1 c.g.srt a b ha hb hab
      by_cases ea : L[a] = x
      · by_cases eb : L[b] = x
        · rw [ea, eb] at hab'; omega
        · rw [ea, upd_same, upd_other eb]
          rw [ea] at hab'
          omega
      · by_cases eb : L[b] = x
        · rw [eb, upd_same, upd_other ea]
          rw [eb] at hab'
          rcases hpos _ (List.getElem_mem ha) ea with h | h <;> omega
        · rw [upd_other ea, upd_other eb]; exact hab'
    exact List.pairwise_iff_getElem.2 srtAll
  · by_cases e : y = x
    · subst e
      rw [upd_same, List.getElem?_set_self (by omega)]
    · rw [upd_other e]
      have h1 := hpos y hy e
      rw [List.getElem?_set_ne (by omega)]
      exact (c.g.pl y hy).2
  · by_cases e : j = k
    · subst e
      exact ⟨x, hk, upd_same _ _ _⟩
    · obtain ⟨y, hy, hpy⟩ := c.done j (by omega)
      refine ⟨y, hy, ?_⟩
      rw [upd_other (fun e' => by subst e'; omega)]
      exact hpy
  · have hyL : y ∈ L := List.mem_of_mem_drop hy
    have srt : (L.drop k).Pairwise (fun a b => pos a < pos b) := c.g.srt.sublist (List.drop_sublist _ _)
    rw [hdrop] at srt
    have hlt := (List.pairwise_cons.1 srt).1 y hy
    rw [upd_other (fun e' => by subst e'; omega)]
    omega

theorem CInv.miss {hs : List Int} {i k : Nat} {D : DataW Unit} {L : List Int} {pos : Int → Nat} (c : CInv hs i k D L pos) (hil : i < hs.length) (hn : ∀ y ∈ L, pos y ≠ i) : CInv hs (i + 1) k D L pos :=
  ⟨c.g, by have := c.ki; omega, hil, c.kl, c.done, fun x hx => by have := c.todo x hx; have := hn x (List.mem_of_mem_drop hx); omega⟩

theorem CInv.fin {hs : List Int} {i k : Nat} {D : DataW Unit} {L : List Int} {pos : Int → Nat} (c : CInv hs i k D L pos) (hil : hs.length ≤ i) : k = L.length ∧ GInv (hs.take k) 0 D L pos := by
  have hkl : k = L.length := by
    rcases Nat.lt_or_ge k L.length with h | h
    · have hx : L[k]? = some L[k] := List.getElem?_eq_getElem h
      have hd : L[k] ∈ L.drop k := by rw [drop_get hx]; exact List.mem_cons_self
      have h1 := c.todo _ hd
      have h2 := c.g.lt (List.getElem_mem h)
      omega
    · have := c.kl; omega
  refine ⟨hkl, ⟨c.g.mp, c.g.nd, c.g.srt, fun x hx => ⟨Nat.zero_le _, ?_⟩⟩⟩
  obtain ⟨j, hj, e⟩ := List.getElem_of_mem hx
  obtain ⟨y, hy, hpy⟩ := c.done j (by omega)
  have : y = x := by rw [List.getElem?_eq_getElem hj, e] at hy; exact (Option.some.inj hy).symm
  subst this
  rw [List.getElem?_take_of_lt (by omega)]
  exact (c.g.pl y hx).2

/-- 'remembers(i)' says yes just of who stands there and is remembered there. -/
theorem GInv.tells {hs : List Int} {lo : Nat} {D : DataW Unit} {L : List Int} {pos : Int → Nat} (g : GInv hs lo D L pos) {x : Int} {i : Nat} {c : Int} (hat : D.atKey (ky x) (el 0) = .lit (.int .i64 c)) :
    (Maps.has D (ky x) && (c == (i : Int))) = true → x ∈ L ∧ pos x = i := by
  intro h
  rw [g.mp.keys x] at h
  simp only [Bool.and_eq_true, decide_eq_true_eq, beq_iff_eq] at h
  obtain ⟨h1, h2⟩ := h
  refine ⟨h1, ?_⟩
  rw [g.mp.vals x h1] at hat
  injection hat with hat
  injection hat with _ hat
  omega

theorem GInv.tells_not {hs : List Int} {lo : Nat} {D : DataW Unit} {L : List Int} {pos : Int → Nat} (g : GInv hs lo D L pos) {x : Int} {i : Nat} {c : Int} (hx : hs[i]? = some x) (hat : D.atKey (ky x) (el 0) = .lit (.int .i64 c)) :
    (Maps.has D (ky x) && (c == (i : Int))) = false → ∀ y ∈ L, pos y ≠ i := by
  intro h y hy e
  have : y = x := by
    have := (g.pl y hy).2
    rw [e, hx] at this
    exact (Option.some.inj this).symm
  subst this
  rw [g.mp.keys y] at h
  rw [g.mp.vals y hy] at hat
  injection hat with hat
  injection hat with _ hat
  have : c = (i : Int) := by omega
  simp [hy, this] at h

end Go.Proofs.Qxb6603426a
