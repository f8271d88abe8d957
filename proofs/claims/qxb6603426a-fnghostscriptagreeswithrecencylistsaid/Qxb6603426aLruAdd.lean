/-
  THE WALK OF (*lruModel).add.
-/
import Derived.Test.Qxb6603426aLru
import Derived.Deep.RegionLaw
namespace Go.Proofs.Qxb6603426a
open Go.RowKit Go.Maps

section
variable {w0 w w1 : World} {F : Nat → Prop} {mb lim : Nat} {vk vp vn : Value} {hd tl sz : Int} {m : Nat} {D : DataW Unit} {ks ps ns : List Int}

theorem LrC.blk_stp {G : Nat → Prop} (g : LrC w mb lim vk vp vn hd tl sz m D ks ps ns) (s : Stp w w1 G) (h : ¬ G mb) : w1.heap[mb]? = some (.cells #[.int .i64 lim, vk, vp, vn, .int .i64 hd, .int .i64 tl, .int .i64 sz, .map (some m)] 46 (0, 0)) := by
  rw [s.block mb g.mbl h]; exact g.blk

/-- 'm.key = append(m.key, h)'. -/
theorem LSt.pushK {r cap : Nat} {h : Int} (g : LSt w0 w F mb lim vk vp vn hd tl sz m D ks ps ns) (hw : (Lit.int .u64 h).wf = true)
    (row : w1.ownsRow 0 29 1 (.slice (some ⟨r, 0, none⟩) (ks.length + 1) cap) (ks.length + 1) (ks.map (Value.int .u64) ++ [.int .u64 h])) (s : Stp w w1 (fun i => vk.ownBlock = some i)) (hl : vk.ownBlock = some r ∨ w.heap.size ≤ r) :
    LSt w0 (w1.setCell ⟨mb, 1, none⟩ (.slice (some ⟨r, 0, none⟩) (ks.length + 1) cap)) F mb lim (.slice (some ⟨r, 0, none⟩) (ks.length + 1) cap) vp vn hd tl sz m D (ks ++ [h]) ps ns := by
  have hb := g.c.blk_stp s g.c.kmb
  have s2 := Stp.setCell w1 ⟨mb, 1, none⟩ (.slice (some ⟨r, 0, none⟩) (ks.length + 1) cap)
  have hrow : w1.ownsRow 0 29 1 (.slice (some ⟨r, 0, none⟩) (ks.length + 1) cap) (ks ++ [h]).length ((ks ++ [h]).map (Value.int .u64)) := by simpa using row
  have rp1 := row_stp g.c.rp s (fun x hx e => g.c.kp e hx)
  have rn1 := row_stp g.c.rn s (fun x hx e => g.c.kn e hx)
  have mp1 := ownsMap_stp g.c.mp s g.c.km
  refine ⟨⟨by rw [blk_set hb]; rfl, row_stp hrow s2 (fun x hx e => ?_), row_stp rp1 s2 (fun x hx e => g.c.pmb (by rw [hx, e])), row_stp rn1 s2 (fun x hx e => g.c.nmb (by rw [hx, e])), ownsMap_stp mp1 s2 g.c.mmb, g.c.pn⟩,
    (g.s.trans s (fun i h => g.fk i h)).trans s2 (fun i h => by rw [h]; exact .inl g.fg), g.fg, g.fm, fun x hx => ?_, g.fp, g.fn, fun x hx => ?_⟩
  · simp only at e
    subst e
    obtain ⟨cur, h'⟩ := row_is hrow hx hb
    cases h'
  · have e : x = r := by simpa [Value.ownBlock] using hx.symm
    subst e
    rcases hl with h1 | h1
    · exact g.fk _ h1
    · right; have := g.s.size; omega
  · rcases List.mem_append.1 hx with hx | hx
    · exact g.wf x hx
    · simp only [List.mem_singleton] at hx; subst hx; exact hw

/-- 'm.prev = append(m.prev, y)'. -/
theorem LSt.pushP {r cap : Nat} {y : Int} (g : LSt w0 w F mb lim vk vp vn hd tl sz m D ks ps ns)
    (row : w1.ownsRow 0 3 1 (.slice (some ⟨r, 0, none⟩) (ps.length + 1) cap) (ps.length + 1) (ps.map (Value.int .i64) ++ [.int .i64 y])) (s : Stp w w1 (fun i => vp.ownBlock = some i)) (hl : vp.ownBlock = some r ∨ w.heap.size ≤ r) :
    LSt w0 (w1.setCell ⟨mb, 2, none⟩ (.slice (some ⟨r, 0, none⟩) (ps.length + 1) cap)) F mb lim vk (.slice (some ⟨r, 0, none⟩) (ps.length + 1) cap) vn hd tl sz m D ks (ps ++ [y]) ns := by
  have hb := g.c.blk_stp s g.c.pmb
  have s2 := Stp.setCell w1 ⟨mb, 2, none⟩ (.slice (some ⟨r, 0, none⟩) (ps.length + 1) cap)
  have hrow : w1.ownsRow 0 3 1 (.slice (some ⟨r, 0, none⟩) (ps.length + 1) cap) (ps ++ [y]).length ((ps ++ [y]).map (Value.int .i64)) := by simpa using row
  have rk1 := row_stp g.c.rk s (fun x hx e => g.c.kp hx e)
  have rn1 := row_stp g.c.rn s (fun x hx e => g.c.pn x e hx)
  have mp1 := ownsMap_stp g.c.mp s g.c.pm
  have hpn : ∀ x, Value.ownBlock (.slice (some ⟨r, 0, none⟩) (ps.length + 1) cap) = some x → vn.ownBlock ≠ some x := fun x hx => by
    have e : x = r := by simpa [Value.ownBlock] using hx.symm
    subst e
    rcases hl with h1 | h1
    · exact g.c.pn _ h1
    · exact fun e => by have := (g.c.rn.lt _ e).2; omega
  refine ⟨⟨by rw [blk_set hb]; rfl, row_stp rk1 s2 (fun x hx e => g.c.kmb (by rw [hx, e])), row_stp hrow s2 (fun x hx e => ?_), row_stp rn1 s2 (fun x hx e => g.c.nmb (by rw [hx, e])), ownsMap_stp mp1 s2 g.c.mmb, hpn⟩,
    (g.s.trans s (fun i h => g.fp i h)).trans s2 (fun i h => by rw [h]; exact .inl g.fg), g.fg, g.fm, g.fk, fun x hx => ?_, g.fn, g.wf⟩
  · simp only at e
    subst e
    obtain ⟨cur, h'⟩ := row_is hrow hx hb
    cases h'
  · have e : x = r := by simpa [Value.ownBlock] using hx.symm
    subst e
    rcases hl with h1 | h1
    · exact g.fp _ h1
    · right; have := g.s.size; omega

/-- 'm.next = append(m.next, y)'. -/
theorem LSt.pushN {r cap : Nat} {y : Int} (g : LSt w0 w F mb lim vk vp vn hd tl sz m D ks ps ns)
    (row : w1.ownsRow 0 3 1 (.slice (some ⟨r, 0, none⟩) (ns.length + 1) cap) (ns.length + 1) (ns.map (Value.int .i64) ++ [.int .i64 y])) (s : Stp w w1 (fun i => vn.ownBlock = some i)) (hl : vn.ownBlock = some r ∨ w.heap.size ≤ r) :
    LSt w0 (w1.setCell ⟨mb, 3, none⟩ (.slice (some ⟨r, 0, none⟩) (ns.length + 1) cap)) F mb lim vk vp (.slice (some ⟨r, 0, none⟩) (ns.length + 1) cap) hd tl sz m D ks ps (ns ++ [y]) := by
  have hb := g.c.blk_stp s g.c.nmb
  have s2 := Stp.setCell w1 ⟨mb, 3, none⟩ (.slice (some ⟨r, 0, none⟩) (ns.length + 1) cap)
  have hrow : w1.ownsRow 0 3 1 (.slice (some ⟨r, 0, none⟩) (ns.length + 1) cap) (ns ++ [y]).length ((ns ++ [y]).map (Value.int .i64)) := by simpa using row
  have rk1 := row_stp g.c.rk s (fun x hx e => g.c.kn hx e)
  have rp1 := row_stp g.c.rp s (fun x hx e => g.c.pn x hx e)
  have mp1 := ownsMap_stp g.c.mp s g.c.nm
  have hpn : ∀ x, vp.ownBlock = some x → Value.ownBlock (.slice (some ⟨r, 0, none⟩) (ns.length + 1) cap) ≠ some x := fun x hx hr => by
    have e : x = r := by simpa [Value.ownBlock] using hr.symm
    subst e
    rcases hl with h1 | h1
    · exact g.c.pn _ hx h1
    · have := (g.c.rp.lt _ hx).2; omega
  refine ⟨⟨by rw [blk_set hb]; rfl, row_stp rk1 s2 (fun x hx e => g.c.kmb (by rw [hx, e])), row_stp rp1 s2 (fun x hx e => g.c.pmb (by rw [hx, e])), row_stp hrow s2 (fun x hx e => ?_), ownsMap_stp mp1 s2 g.c.mmb, hpn⟩,
    (g.s.trans s (fun i h => g.fn i h)).trans s2 (fun i h => by rw [h]; exact .inl g.fg), g.fg, g.fm, g.fk, g.fp, fun x hx => ?_, g.wf⟩
  · simp only at e
    subst e
    obtain ⟨cur, h'⟩ := row_is hrow hx hb
    cases h'
  · have e : x = r := by simpa [Value.ownBlock] using hx.symm
    subst e
    rcases hl with h1 | h1
    · exact g.fn _ h1
    · right; have := g.s.size; omega

/-- The shape of a row's slice. -/
theorem row_slice {e : TypeId} {n : Nat} {v : Value} {xs : List Value} (row : w.ownsRow 0 e 1 v n xs) : ∃ ao cap, v = .slice ao n cap := by
  rcases row.2 with ⟨h1, h2⟩ | ⟨r, cap, cur, hv, _⟩
  · exact ⟨none, 0, by rw [h1, h2]⟩
  · exact ⟨_, _, hv⟩
end

theorem LAt.drewN {w0 : World} {F : Nat → Prop} {mb lim : Nat} {vk vp vn : Value} {m : Nat} {ks : List Int} {pos : Int → Nat} {L : List Int} {w : World} (l : LAt w0 F mb lim vk vp vn m ks pos L w) (n : Nat) : LAt w0 F mb lim vk vp vn m ks pos L (w.drewN n) := by
  obtain ⟨hd, tl, D, ps, ns, g, q⟩ := l
  exact ⟨hd, tl, D, ps, ns, g.drewN n, q⟩

/-- Behind add. -/
def LAdded (w0 : World) (F : Nat → Prop) (mb lim : Nat) (L : List Int) (n : Nat) (w : World) : Prop :=
  ∃ (vk vp vn : Value) (m : Nat) (ks : List Int) (pos : Int → Nat), LAt w0 F mb lim vk vp vn m ks pos L w ∧ ks.length ≤ n

set_option maxRecDepth 100000 in
set_option maxHeartbeats 2000000 in
theorem ladd_run (w0 : World) (F : Nat → Prop) (mb lim m n : Nat) (vk vp vn : Value) (ks : List Int) (pos : Int → Nat) (L : List Int) (h : Int) (w : World) (l : LAt w0 F mb lim vk vp vn m ks pos L w) (hw : (Lit.int .u64 h).wf = true) (hkn : ks.length ≤ n) (hn : n < 1048576) (hL : L.length ≤ lim) (hL2 : L.length ≤ n) :
    Calls Try.prog 14 #[.pointer (some ⟨mb, 0, none⟩), .int .u64 h] w fun e w' => e = .returned (.tuple #[]) ∧ LAdded w0 F mb lim (gAdd lim L h) (n + 1) w' := by
  have l' := l
  obtain ⟨hd, tl, D, ps, ns, g, q⟩ := l'
  obtain ⟨c, hat, hlook⟩ := g.c.look hw
  obtain ⟨b, hb⟩ : ∃ b, Maps.has D (ky h) = b := ⟨_, rfl⟩
  rw [hb] at hlook
  have HB : Hid (b = decide (h ∈ L)) := by rw [← hb]; exact q.mp.keys h
  have HC : Hid (h ∈ L → c = (pos h : Int)) := fun hm => by
    rw [q.mp.vals h hm] at hat
    injection hat with hat
    injection hat with _ hat
    exact hat.symm
  have b7 := cell_of_blk g.c.blk 7
  simp at b7
  clear hb hat g q
  have hn' : ∀ X : List Int, X.length ≤ n → X.length < 1048576 := fun X h => by omega
  go_enter Try.func14, Try.ntmps14
  go_upto_if 16 with fail
  go_cut [] (fun wc => LAt w0 F mb lim vk vp vn m ks pos (rm L h) wc)
  case first =>
    by_cases hm : h ∈ L
    · have hb : b = true := by rw [HB.out]; exact decide_eq_true hm
      have hc := HC.out hm
      subst hb
      subst hc
      go_wp2_with (go_at_call 20; refine (unlink_any l hm (by omega)).mono ?_; rintro e w' ⟨rfl, l2⟩)
      go_meet
      case rel => exact l2
    · have hb : b = false := by rw [HB.out]; exact decide_eq_false hm
      subst hb
      go_wp2
      go_meet
      case rel => rw [rm_of_not_mem hm]; exact l
  case rest =>
  clear HC HB l hlook b7
  obtain ⟨hd, tl, D, ps, ns, g, q⟩ := hcut
  have hnL : h ∉ rm L h := fun hm => (mem_rm.1 hm).2 rfl
  obtain ⟨i29, hi29, h290, h291, h292⟩ := info_parts Try.info29
  obtain ⟨i3, hi3, h30, h31, h32⟩ := info_parts Try.info3
  obtain ⟨htl, Q1⟩ := q.push hnL
  obtain ⟨ak, ck, rfl⟩ := row_slice g.c.rk
  have HLP : Hid (ps.length = ks.length) := q.lp
  have HLN : Hid (ns.length = ks.length) := q.ln
  have hpl : ps.length < 1048576 := by rw [HLP.out]; omega
  have hnl : ns.length < 1048576 := by rw [HLN.out]; omega
  have b1 := cell_of_blk g.c.blk 1
  simp at b1
  -- m.key = append(m.key, h)
  go_wp2_with (at_builtin; refine wpList_row_append Try.underlying36 hi29 h290 h291 h292 g.c.rk (by omega) h rfl (.tmp 29) (.tmp 31) rfl rfl rfl ?_; intro r1 c1 w1 row1 s1 l1; have hb1 := g.c.blk_stp s1 g.c.kmb; have k1 := cell_of_blk hb1 1; have k1f := frozen_of_blk hb1 1; simp at k1)
  have g1 := g.pushK hw row1 s1 l1
  clear row1 s1 l1 hb1 k1 k1f b1
  obtain ⟨wa, hwa⟩ : ∃ wa, wa = w1.setCell ⟨mb, 1, none⟩ (.slice (some ⟨r1, 0, none⟩) (ks.length + 1) c1) := ⟨_, rfl⟩
  rw [← hwa] at g1 ⊢
  clear hwa g
  -- m.prev = append(m.prev, m.tail)
  go_cut [] (fun wc => ∃ r2 c2, LSt w0 wc F mb lim (.slice (some ⟨r1, 0, none⟩) (ks.length + 1) c1) (.slice (some ⟨r2, 0, none⟩) (ps.length + 1) c2) vn hd tl ((rm L h).length : Int) m D (ks ++ [h]) (ps ++ [tl]) ns)
  case first =>
    have gd := g1.drewN 1
    have b2 := cell_of_blk g1.c.blk 2
    have b5 := cell_of_blk g1.c.blk 5
    simp at b2 b5
    have hmb := g1.c.mbl
    go_region_law (refine step_row_append (w := wa.drew) Try.underlying44 hi3 h30 h31 h32 gd.c.rp (by omega) tl rfl (.tmp 39) (.tmp 44) rfl (by simp [Act.eval]) (by simp [Act.eval]) ?_; intro r2 c2 w2 row2 s2 l2; have hb2 := gd.c.blk_stp s2 gd.c.pmb; have k2 := cell_of_blk hb2 2; have k2f := frozen_of_blk hb2 2; simp at k2)
    all_goals
      go_wp2
      go_meet
      case rel => exact ⟨r2, c2, gd.pushP row2 s2 l2⟩
  case rest =>
  clear g1
  obtain ⟨r2, c2, g2⟩ := hcut
  -- m.next = append(m.next, -1)
  have b3 := cell_of_blk g2.c.blk 3
  simp at b3
  go_upto_if 61 with (at_builtin; refine wpList_row_append Try.underlying44 hi3 h30 h31 h32 g2.c.rn (by omega) (-1) rfl (.tmp 52) (.tmp 53) rfl rfl rfl ?_; intro r3 c3 w3 row3 s3 l3; have hb3 := g2.c.blk_stp s3 g2.c.nmb; have k3 := cell_of_blk hb3 3; have k3f := frozen_of_blk hb3 3; have k5 := cell_of_blk hb3 5; simp at k3 k5)
  have g3 := g2.pushN row3 s3 l3
  clear row3 s3 l3 hb3 k3 k3f k5 b3 g2
  obtain ⟨wb, hwb⟩ : ∃ wb, wb = w3.setCell ⟨mb, 3, none⟩ (.slice (some ⟨r3, 0, none⟩) (ns.length + 1) c3) := ⟨_, rfl⟩
  rw [← hwb] at g3 ⊢
  clear hwb
  -- if m.tail >= 0
  go_cut [] (fun wc => LSt w0 wc F mb lim (.slice (some ⟨r1, 0, none⟩) (ks.length + 1) c1) (.slice (some ⟨r2, 0, none⟩) (ps.length + 1) c2) (.slice (some ⟨r3, 0, none⟩) (ns.length + 1) c3) (pickI tl hd (ks.length : Int)) tl ((rm L h).length : Int) m D (ks ++ [h]) (ps ++ [tl]) (nsCut (ns ++ [-1]) tl (ks.length : Int)))
  case first =>
    rcases htl with rfl | ⟨a, rfl, ha⟩
    · have b4 := cell_of_blk g3.c.blk 4
      have b4f := frozen_of_blk g3.c.blk 4
      simp at b4
      go_wp2
      go_meet
      case rel => simpa [nsCut, pickI] using g3.setHd (ks.length : Int)
    · obtain ⟨y, hy⟩ : ∃ y, (ns ++ [-1])[a]? = some y := ⟨_, List.getElem?_eq_getElem (by have := HLN.out; simp; omega)⟩
      have b3 := cell_of_blk g3.c.blk 3
      have b5 := cell_of_blk g3.c.blk 5
      simp at b3 b5
      have e3 := row_cell g3.c.rn hy
      have e4 := row_fr g3.c.rn a
      clear hy
      have hai : (a : Int) < (ns.length : Int) + 1 := by have := HLN.out; omega
      go_wp2
      go_region
      go_wp2
      go_meet
      case rel =>
        have gz := (g3.setN a (ks.length : Int)).drewN 1
        rw [← World.drew_is_drewN] at gz
        simpa [nsCut, pickI] using gz
  case rest =>
  clear g3 htl
  have g4 := hcut
  clear hcut
  have g5 := g4.setTl (ks.length : Int)
  obtain ⟨w6, hupd, g6, s6⟩ := g5.c.store hw ks.length (by rw [q.mp.size]; have := length_rm_le L h; unfold maxLen; omega) (by unfold maxLen; omega)
  have g6' := g5.mapped g6 s6
  have g7 := g6'.setSz (((rm L h).length : Int) + 1)
  have l7 : LAt w0 F mb lim (.slice (some ⟨r1, 0, none⟩) (ks.length + 1) c1) (.slice (some ⟨r2, 0, none⟩) (ps.length + 1) c2) (.slice (some ⟨r3, 0, none⟩) (ns.length + 1) c3) m (ks ++ [h]) (upd pos h ks.length) (rm L h ++ [h]) (w6.setCell ⟨mb, 6, none⟩ (.int .i64 (((rm L h).length : Int) + 1))) := by
    have e : ((rm L h ++ [h]).length : Int) = ((rm L h).length : Int) + 1 := by simp
    refine ⟨_, _, _, _, _, ?_, Q1⟩
    rw [e]
    exact g7
  have b5 := cell_of_blk g4.c.blk 5
  have b5f := frozen_of_blk g4.c.blk 5
  have b7 := cell_of_blk g5.c.blk 7
  have b6 := cell_of_blk g6'.c.blk 6
  have b6f := frozen_of_blk g6'.c.blk 6
  simp at b5 b6 b7
  have hrl := length_rm_le L h
  clear g4 g5 g6 s6 g6' g7 Q1 q
  go_wp2
  clear b5 b5f b7 b6 b6f hupd
  go_loopg [] ((rm L h ++ [h]).length) (fun k wr => ∃ L2, LAt w0 F mb lim (.slice (some ⟨r1, 0, none⟩) (ks.length + 1) c1) (.slice (some ⟨r2, 0, none⟩) (ps.length + 1) c2) (.slice (some ⟨r3, 0, none⟩) (ns.length + 1) c3) m (ks ++ [h]) (upd pos h ks.length) L2 wr ∧ (L2 = rm L h ++ [h] ∨ (lim < (rm L h ++ [h]).length ∧ L2 = (rm L h ++ [h]).drop 1)) ∧ k = L2.length)
  case atStart => exact ⟨_, l7, .inl rfl, rfl⟩
  case round =>
  clear l7
  obtain ⟨L2, l2, hL2', hk⟩ := hrel
  have HL2 : Hid (L2 = rm L h ++ [h] ∨ (lim < (rm L h ++ [h]).length ∧ L2 = (rm L h ++ [h]).drop 1)) := hL2'
  have HK : Hid (gk = L2.length) := hk
  clear hk hL2'
  have l2' := l2
  obtain ⟨hd2, tl2, D2, ps2, ns2, g, q⟩ := l2'
  have b0 := cell_of_blk g.c.blk 0
  have b4 := cell_of_blk g.c.blk 4
  have b6 := cell_of_blk g.c.blk 6
  simp at b0 b4 b6
  by_cases hlt : (lim : Int) < (L2.length : Int)
  · have hL1 : L2 = rm L h ++ [h] ∧ lim < (rm L h ++ [h]).length := by
      rcases HL2.out with rfl | ⟨h1, h2⟩
      · exact ⟨rfl, by omega⟩
      · rw [h2] at hlt; simp at hlt; omega
    obtain ⟨x, rr, hx1, hx2, hx3⟩ := q.oldest (by omega)
    subst hx2
    have HR : Hid (L2 = x :: rr ∧ rm L2 x = rr ∧ L2 = rm L h ++ [h] ∧ lim < (rm L h ++ [h]).length) := ⟨hx1, hx3, hL1⟩
    have l2d : LAt w0 F mb lim (.slice (some ⟨r1, 0, none⟩) (ks.length + 1) c1) (.slice (some ⟨r2, 0, none⟩) (ps.length + 1) c2) (.slice (some ⟨r3, 0, none⟩) (ns.length + 1) c3) m (ks ++ [h]) (upd pos h ks.length) L2 wr := l2
    have hxm : x ∈ L2 := by rw [hx1]; simp
    have hl2 : L2.length ≤ 1048576 := by rw [hL1.1]; simp; omega
    clear hx1 hx3 hL1 g q
    go_wp2
    go_quiet (fail)
    go_wp2_with (go_at_call 20; refine (unlink_any (LAt.drewN l2 nq) hxm hl2).mono ?_; rintro e w' ⟨rfl, l3⟩)
    go_roundg rr.length
    case measure => have h1 := HK.out; rw [HR.out.1] at h1; simp at h1; omega
    case rel =>
      obtain ⟨e1, e2, e3, e4⟩ := HR.out
      rw [e2] at l3
      exact ⟨rr, l3, .inr ⟨e4, by rw [← e3, e1]; rfl⟩, rfl⟩
  · have hfin : L2 = gAdd lim L h := by
      rw [← gAdd_lru hL]
      rcases HL2.out with h1 | ⟨h1, h2⟩
      · rw [if_neg (by rw [← h1]; omega)]; exact h1
      · rw [if_pos h1]; exact h2
    clear HL2 HK g q
    subst hfin
    go_wp2
    go_quiet (fail)
    go_wp2
    go_end0
    exact ⟨rfl, _, _, _, _, _, _, LAt.drewN l2 nq, by simp; omega⟩

end Go.Proofs.Qxb6603426a
