/-
  THE WALKS OF (*lruModel).unlink, add, forget, AND OF newLRUModel.
-/
import Derived.Test.Qxb6603426aLruParts
import Derived.Deep.RegionHeld3
namespace Go.Proofs.Qxb6603426a
open Go.RowKit Go.Maps

/-- The list as it stands in the middle of a call that began in w0. -/
structure LSt (w0 w : World) (F : Nat → Prop) (mb lim : Nat) (vk vp vn : Value) (hd tl sz : Int) (m : Nat) (D : DataW Unit) (ks ps ns : List Int) : Prop where
  c : LrC w mb lim vk vp vn hd tl sz m D ks ps ns
  s : Stp w0 w F
  fg : F mb
  fm : F m ∨ w0.heap.size ≤ m
  fk : ∀ r, vk.ownBlock = some r → F r ∨ w0.heap.size ≤ r
  fp : ∀ r, vp.ownBlock = some r → F r ∨ w0.heap.size ≤ r
  fn : ∀ r, vn.ownBlock = some r → F r ∨ w0.heap.size ≤ r
  wf : ∀ x ∈ ks, (Lit.int .u64 x).wf = true

section
variable {w0 w w' : World} {F : Nat → Prop} {mb lim : Nat} {vk vp vn : Value} {hd tl sz : Int} {m : Nat} {D : DataW Unit} {ks ps ns : List Int}

theorem LSt.to (g : LSt w0 w F mb lim vk vp vn hd tl sz m D ks ps ns) {hd' tl' sz' : Int} {D' : DataW Unit} {ps' ns' : List Int} (c : LrC w' mb lim vk vp vn hd' tl' sz' m D' ks ps' ns') {G : Nat → Prop} (s : Stp w w' G) (hG : ∀ i, G i → F i ∨ w0.heap.size ≤ i) :
    LSt w0 w' F mb lim vk vp vn hd' tl' sz' m D' ks ps' ns' := ⟨c, g.s.trans s hG, g.fg, g.fm, g.fk, g.fp, g.fn, g.wf⟩

theorem LSt.drewN (g : LSt w0 w F mb lim vk vp vn hd tl sz m D ks ps ns) (n : Nat) : LSt w0 (w.drewN n) F mb lim vk vp vn hd tl sz m D ks ps ns :=
  g.to (g.c.drewN n) (Stp.drewN w n F) (fun _ h => .inl h)
theorem LSt.setHd (g : LSt w0 w F mb lim vk vp vn hd tl sz m D ks ps ns) (x : Int) : LSt w0 (w.setCell ⟨mb, 4, none⟩ (.int .i64 x)) F mb lim vk vp vn x tl sz m D ks ps ns :=
  g.to (g.c.setHd x) (Stp.setCell w _ _) (fun i h => by rw [h]; exact .inl g.fg)
theorem LSt.setTl (g : LSt w0 w F mb lim vk vp vn hd tl sz m D ks ps ns) (x : Int) : LSt w0 (w.setCell ⟨mb, 5, none⟩ (.int .i64 x)) F mb lim vk vp vn hd x sz m D ks ps ns :=
  g.to (g.c.setTl x) (Stp.setCell w _ _) (fun i h => by rw [h]; exact .inl g.fg)
theorem LSt.setSz (g : LSt w0 w F mb lim vk vp vn hd tl sz m D ks ps ns) (x : Int) : LSt w0 (w.setCell ⟨mb, 6, none⟩ (.int .i64 x)) F mb lim vk vp vn hd tl x m D ks ps ns :=
  g.to (g.c.setSz x) (Stp.setCell w _ _) (fun i h => by rw [h]; exact .inl g.fg)
theorem LSt.setN {r n cap : Nat} (g : LSt w0 w F mb lim vk vp (.slice (some ⟨r, 0, none⟩) n cap) hd tl sz m D ks ps ns) (i : Nat) (q : Int) :
    LSt w0 (w.setCell ⟨r, i, none⟩ (.int .i64 q)) F mb lim vk vp (.slice (some ⟨r, 0, none⟩) n cap) hd tl sz m D ks ps (ns.set i q) :=
  g.to (g.c.setN i q) (Stp.setCell w _ _) (fun i h => by rw [h]; exact g.fn r rfl)
theorem LSt.setP {r n cap : Nat} (g : LSt w0 w F mb lim vk (.slice (some ⟨r, 0, none⟩) n cap) vn hd tl sz m D ks ps ns) (i : Nat) (q : Int) :
    LSt w0 (w.setCell ⟨r, i, none⟩ (.int .i64 q)) F mb lim vk (.slice (some ⟨r, 0, none⟩) n cap) vn hd tl sz m D ks (ps.set i q) ns :=
  g.to (g.c.setP i q) (Stp.setCell w _ _) (fun i h => by rw [h]; exact g.fp r rfl)
theorem LSt.mapped {D' : DataW Unit} (g : LSt w0 w F mb lim vk vp vn hd tl sz m D ks ps ns) (c : LrC w' mb lim vk vp vn hd tl sz m D' ks ps ns) (s : Stp w w' (fun i => i = m)) : LSt w0 w' F mb lim vk vp vn hd tl sz m D' ks ps ns :=
  g.to c s (fun i h => by rw [h]; exact g.fm)
end

/-- 'if p >= 0', as a number. -/
def pickI (p a b : Int) : Int := if 0 ≤ p then a else b

/-- The list L, its rows and its map in their places. -/
def LAt (w0 : World) (F : Nat → Prop) (mb lim : Nat) (vk vp vn : Value) (m : Nat) (ks : List Int) (pos : Int → Nat) (L : List Int) (w : World) : Prop :=
  ∃ (hd tl : Int) (D : DataW Unit) (ps ns : List Int), LSt w0 w F mb lim vk vp vn hd tl (L.length : Int) m D ks ps ns ∧ LInv ks ps ns hd tl D L pos

set_option maxRecDepth 100000 in
set_option maxHeartbeats 2000000 in
theorem unlink_run (w0 : World) (F : Nat → Prop) (mb lim m rk rp rn n ck cp cn : Nat) (hd tl : Int) (D : DataW Unit) (ks ps ns L : List Int) (w : World) (x p q : Int) (i : Nat)
    (g : LSt w0 w F mb lim (.slice (some ⟨rk, 0, none⟩) n ck) (.slice (some ⟨rp, 0, none⟩) n cp) (.slice (some ⟨rn, 0, none⟩) n cn) hd tl (L.length : Int) m D ks ps ns)
    (hx : ks[i]? = some x) (hp : ps[i]? = some p) (hq : ns[i]? = some q) (hlk : ks.length = n) (hlp : ps.length = n) (hln : ns.length = n) (hL : 0 < L.length) (hL2 : L.length ≤ 1048576)
    (hp' : p = -1 ∨ ∃ a : Nat, p = a ∧ a < n) (hq' : q = -1 ∨ ∃ b : Nat, q = b ∧ b < n) :
    Calls Try.prog 20 #[.pointer (some ⟨mb, 0, none⟩), .int .i64 (i : Int)] w fun e w' => e = .returned (.tuple #[]) ∧
      LSt w0 w' F mb lim (.slice (some ⟨rk, 0, none⟩) n ck) (.slice (some ⟨rp, 0, none⟩) n cp) (.slice (some ⟨rn, 0, none⟩) n cn) (pickI p hd q) (pickI q tl p) ((L.length : Int) - 1) m (D.del (ky x)) ks ((nsCut ps q p).set i (-1)) ((nsCut ns p q).set i (-1)) := by
  have hin : i < n := by have := (List.getElem?_eq_some_iff.1 hx).1; omega
  have hwx := g.wf x (List.mem_of_getElem? hx)
  have HX : Hid (ks[i]? = some x) := hx
  have HP : Hid (ps[i]? = some p) := hp
  have HQ : Hid (ns[i]? = some q) := hq
  have H1 : Hid (ks.length = n) := hlk
  have H2 : Hid (ps.length = n) := hlp
  have H3 : Hid (ns.length = n) := hln
  clear hx hp hq hlk hlp hln
  have b2 := cell_of_blk g.c.blk 2
  have b3 := cell_of_blk g.c.blk 3
  have b4 := cell_of_blk g.c.blk 4
  have b4f := frozen_of_blk g.c.blk 4
  simp at b2 b3 b4
  have e1 := row_cell g.c.rp HP.out
  have e2 := row_cell g.c.rn HQ.out
  go_enter Try.func20, Try.ntmps20
  go_upto_if 21 with fail
  go_cut [] (fun wc => LSt w0 wc F mb lim (.slice (some ⟨rk, 0, none⟩) n ck) (.slice (some ⟨rp, 0, none⟩) n cp) (.slice (some ⟨rn, 0, none⟩) n cn) (pickI p hd q) tl (L.length : Int) m D ks ps (nsCut ns p q))
  case first =>
    rcases hp' with rfl | ⟨a, rfl, ha⟩
    · go_wp2
      go_meet
      case rel => simpa [nsCut, pickI] using g.setHd q
    · obtain ⟨y, hy⟩ : ∃ y, ns[a]? = some y := ⟨_, List.getElem?_eq_getElem (by rw [H3.out]; exact ha)⟩
      have e3 := row_cell g.c.rn hy
      have e4 := row_fr g.c.rn a
      have HY : Hid (ns[a]? = some y) := hy
      clear hy
      go_wp2
      go_meet
      case rel => simpa [nsCut, pickI] using g.setN a q
  case rest =>
  clear g b2 b3 b4 b4f e1 e2 hp'
  have g := hcut
  clear hcut
  have b2 := cell_of_blk g.c.blk 2
  have b5 := cell_of_blk g.c.blk 5
  have b5f := frozen_of_blk g.c.blk 5
  simp at b2 b5
  go_upto_if 34 with fail
  go_cut [] (fun wc => LSt w0 wc F mb lim (.slice (some ⟨rk, 0, none⟩) n ck) (.slice (some ⟨rp, 0, none⟩) n cp) (.slice (some ⟨rn, 0, none⟩) n cn) (pickI p hd q) (pickI q tl p) (L.length : Int) m D ks (nsCut ps q p) (nsCut ns p q))
  case first =>
    rcases hq' with rfl | ⟨b, rfl, hb⟩
    · go_wp2
      go_meet
      case rel => simpa [nsCut, pickI] using g.setTl p
    · obtain ⟨y, hy⟩ : ∃ y, ps[b]? = some y := ⟨_, List.getElem?_eq_getElem (by rw [H2.out]; exact hb)⟩
      have e3 := row_cell g.c.rp hy
      have e4 := row_fr g.c.rp b
      have HY : Hid (ps[b]? = some y) := hy
      clear hy
      go_wp2
      go_meet
      case rel => simpa [nsCut, pickI] using g.setP b p
  case rest =>
  clear g b2 b5 b5f hq'
  have g := hcut
  clear hcut
  obtain ⟨ps1, hps1⟩ : ∃ ps1, ps1 = nsCut ps q p := ⟨_, rfl⟩
  obtain ⟨ns1, hns1⟩ : ∃ ns1, ns1 = nsCut ns p q := ⟨_, rfl⟩
  have hl1 : ps1.length = n := by rw [hps1]; unfold nsCut; split <;> simp [H2.out]
  have hl2 : ns1.length = n := by rw [hns1]; unfold nsCut; split <;> simp [H3.out]
  rw [← hps1, ← hns1] at g
  have HS : Hid (ps1 = nsCut ps q p ∧ ns1 = nsCut ns p q) := ⟨hps1, hns1⟩
  clear hps1 hns1 HP HQ
  obtain ⟨y, hy⟩ : ∃ y, ps1[i]? = some y := ⟨_, List.getElem?_eq_getElem (by omega)⟩
  obtain ⟨z, hz⟩ : ∃ z, ns1[i]? = some z := ⟨_, List.getElem?_eq_getElem (by omega)⟩
  have e3 := row_cell g.c.rp hy
  have e4 := row_fr g.c.rp i
  have b2 := cell_of_blk g.c.blk 2
  simp at b2
  have ga := g.setP i (-1)
  have d3 := cell_of_blk ga.c.blk 3
  simp at d3
  have e5 := row_cell ga.c.rn hz
  have e6 := row_fr ga.c.rn i
  have gb := (ga.setN i (-1)).drewN 1
  obtain ⟨w3, hdel, g3, s3⟩ := gb.c.drop hwx 0
  have gc := gb.mapped g3 s3
  have q1 := cell_of_blk gb.c.blk 1
  have q7 := cell_of_blk gb.c.blk 7
  simp at q1 q7
  have qx := row_cell gb.c.rk HX.out
  have t6 := cell_of_blk gc.c.blk 6
  have t6f := frozen_of_blk gc.c.blk 6
  simp at t6 qx
  clear hy hz hl1 hl2
  rw [← World.drew_is_drewN] at hdel
  go_wp2
  refine region_tail 11 (by kernel_rfl) (by kernel_rfl) ?_
  simp only [List.take_succ_cons, List.take_zero, List.drop_succ_cons, List.drop_zero]
  repeat still_step
  refine wpStill_nil ?_
  go_wp2
  have gd := gc.setSz ((L.length : Int) - 1)
  go_end0
  refine ⟨rfl, ?_⟩
  rw [← HS.out.1, ← HS.out.2]
  exact gd

theorem LAt.ks_wf {w0 : World} {F : Nat → Prop} {mb lim : Nat} {vk vp vn : Value} {m : Nat} {ks : List Int} {pos : Int → Nat} {L : List Int} {w : World} (l : LAt w0 F mb lim vk vp vn m ks pos L w) : ∀ x ∈ ks, (Lit.int .u64 x).wf = true := by
  obtain ⟨hd, tl, D, ps, ns, g, q⟩ := l
  exact g.wf

/-- '(*lruModel).unlink'. -/
theorem unlink_any {w0 : World} {F : Nat → Prop} {mb lim : Nat} {vk vp vn : Value} {m : Nat} {ks : List Int} {pos : Int → Nat} {L : List Int} {w : World} (l : LAt w0 F mb lim vk vp vn m ks pos L w) {x : Int} (hx : x ∈ L) (hL2 : L.length ≤ 1048576) :
    Calls Try.prog 20 #[.pointer (some ⟨mb, 0, none⟩), .int .i64 (pos x : Int)] w fun e w' => e = .returned (.tuple #[]) ∧ LAt w0 F mb lim vk vp vn m ks pos (rm L x) w' := by
  obtain ⟨hd, tl, D, ps, ns, g, q⟩ := l
  have hlt := q.lt hx
  have hL : 0 < L.length := List.length_pos_of_mem hx
  obtain ⟨pp, qq, h1, h2, h3, h4, q'⟩ := q.unlink hx
  have rk' := g.c.rk
  have rp' := g.c.rp
  have rn' := g.c.rn
  rw [q.lp] at rp'
  rw [q.ln] at rn'
  obtain ⟨rk, ck, rfl⟩ := row_shape rk' (by omega)
  obtain ⟨rp, cp, rfl⟩ := row_shape rp' (by omega)
  obtain ⟨rn, cn, rfl⟩ := row_shape rn' (by omega)
  refine (unlink_run w0 F mb lim m rk rp rn ks.length ck cp cn hd tl D ks ps ns L w x pp qq (pos x) g (q.key x hx) h1 h2 rfl q.lp q.ln hL hL2 h3 h4).mono ?_
  rintro e w' ⟨rfl, g'⟩
  refine ⟨rfl, _, _, _, _, _, ?_, q'⟩
  have hlen : ((rm L x).length : Int) = (L.length : Int) - 1 := by
    have := length_rm x q.nd
    rw [if_pos hx] at this
    omega
  rw [hlen]
  exact g'

end Go.Proofs.Qxb6603426a
