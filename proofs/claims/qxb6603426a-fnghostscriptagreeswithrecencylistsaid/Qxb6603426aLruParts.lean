/-
  THE RECENCY LIST IN MEMORY: its struct's block, its three rows, its map; and what each step of the Go text does to them. No walk here.
-/
import Derived.Test.Qxb6603426aGhost
import Derived.Test.Qxb6603426aLinks
namespace Go.Proofs.Qxb6603426a
open Go.RowKit Go.Maps

theorem Try.info3 : (Try.prog.info? 3).map (fun i => (i.zero, i.size, i.bytes)) = some (some (.int .i64 0), 1, 8) := by kernel_rfl

section
variable {w w' : World} {e : TypeId} {v : Value} {n : Nat} {xs : List Value}

theorem row_is {r : Nat} {o : Obj} (row : w.ownsRow 0 e 1 v n xs) (hr : v.ownBlock = some r) (hb : w.heap[r]? = some o) : ∃ cur, o = .cells cur e (0, 0) := by
  rcases row.2 with ⟨rfl, _⟩ | ⟨g, cap, cur, rfl, _, hg, _⟩
  · simp [Value.ownBlock] at hr
  · simp [Value.ownBlock] at hr
    subst hr
    rw [hg] at hb
    exact ⟨cur, (Option.some.inj hb).symm⟩

theorem row_stp {F : Nat → Prop} (row : w.ownsRow 0 e 1 v n xs) (s : Stp w w' F) (hF : ∀ r, v.ownBlock = some r → ¬ F r) : w'.ownsRow 0 e 1 v n xs := by
  refine ⟨row.1, ?_⟩
  rcases row.2 with h | ⟨g, cap, cur, hv, hb, hg, r⟩
  · exact .inl h
  · refine .inr ⟨g, cap, cur, hv, hb, ?_, r⟩
    rw [s.block g (Array.getElem?_eq_some_iff.1 hg).1 (hF g (by rw [hv]; rfl))]
    exact hg
end

/-- THE LIST's STRUCT IN BLOCK mb, its rows of keys, of links back, of links on; its map in block m. -/
structure LrC (w : World) (mb : Nat) (lim : Int) (vk vp vn : Value) (hd tl sz : Int) (m : Nat) (D : DataW Unit) (ks ps ns : List Int) : Prop where
  blk : w.heap[mb]? = some (.cells #[.int .i64 lim, vk, vp, vn, .int .i64 hd, .int .i64 tl, .int .i64 sz, .map (some m)] 46 (0, 0))
  rk : w.ownsRow 0 29 1 vk ks.length (ks.map (Value.int .u64))
  rp : w.ownsRow 0 3 1 vp ps.length (ps.map (Value.int .i64))
  rn : w.ownsRow 0 3 1 vn ns.length (ns.map (Value.int .i64))
  mp : w.ownsMap Try.prog 29 (plainElem Try.prog 3) m (Maps.size D) D
  pn : ∀ r, vp.ownBlock = some r → vn.ownBlock ≠ some r

section
variable {w w' : World} {mb : Nat} {lim : Int} {vk vp vn : Value} {hd tl sz : Int} {m : Nat} {D : DataW Unit} {ks ps ns : List Int}

theorem LrC.drewN (g : LrC w mb lim vk vp vn hd tl sz m D ks ps ns) (n : Nat) : LrC (w.drewN n) mb lim vk vp vn hd tl sz m D ks ps ns := ⟨g.blk, g.rk, g.rp, g.rn, g.mp, g.pn⟩
theorem LrC.mbl (g : LrC w mb lim vk vp vn hd tl sz m D ks ps ns) : mb < w.heap.size := (Array.getElem?_eq_some_iff.1 g.blk).1
theorem LrC.mmb (g : LrC w mb lim vk vp vn hd tl sz m D ks ps ns) : m ≠ mb := by
  intro e
  obtain ⟨es, clock, hb, _⟩ := g.mp
  rw [e, g.blk] at hb
  cases hb
theorem LrC.kmb (g : LrC w mb lim vk vp vn hd tl sz m D ks ps ns) : vk.ownBlock ≠ some mb := fun e => by obtain ⟨cur, h⟩ := row_is g.rk e g.blk; cases h
theorem LrC.pmb (g : LrC w mb lim vk vp vn hd tl sz m D ks ps ns) : vp.ownBlock ≠ some mb := fun e => by obtain ⟨cur, h⟩ := row_is g.rp e g.blk; cases h
theorem LrC.nmb (g : LrC w mb lim vk vp vn hd tl sz m D ks ps ns) : vn.ownBlock ≠ some mb := fun e => by obtain ⟨cur, h⟩ := row_is g.rn e g.blk; cases h
theorem LrC.km (g : LrC w mb lim vk vp vn hd tl sz m D ks ps ns) : vk.ownBlock ≠ some m := fun e => by obtain ⟨es, clock, hb, _⟩ := g.mp; obtain ⟨cur, h⟩ := row_is g.rk e hb; cases h
theorem LrC.pm (g : LrC w mb lim vk vp vn hd tl sz m D ks ps ns) : vp.ownBlock ≠ some m := fun e => by obtain ⟨es, clock, hb, _⟩ := g.mp; obtain ⟨cur, h⟩ := row_is g.rp e hb; cases h
theorem LrC.nm (g : LrC w mb lim vk vp vn hd tl sz m D ks ps ns) : vn.ownBlock ≠ some m := fun e => by obtain ⟨es, clock, hb, _⟩ := g.mp; obtain ⟨cur, h⟩ := row_is g.rn e hb; cases h
theorem LrC.kp (g : LrC w mb lim vk vp vn hd tl sz m D ks ps ns) {r : Nat} (h1 : vk.ownBlock = some r) : vp.ownBlock ≠ some r := fun h2 => by
  rcases g.rk.2 with ⟨rfl, _⟩ | ⟨g', cap, cur, rfl, _, hg, _⟩
  · simp [Value.ownBlock] at h1
  · simp [Value.ownBlock] at h1
    subst h1
    obtain ⟨cur', h⟩ := row_is g.rp h2 hg
    cases h
theorem LrC.kn (g : LrC w mb lim vk vp vn hd tl sz m D ks ps ns) {r : Nat} (h1 : vk.ownBlock = some r) : vn.ownBlock ≠ some r := fun h2 => by
  rcases g.rk.2 with ⟨rfl, _⟩ | ⟨g', cap, cur, rfl, _, hg, _⟩
  · simp [Value.ownBlock] at h1
  · simp [Value.ownBlock] at h1
    subst h1
    obtain ⟨cur', h⟩ := row_is g.rn h2 hg
    cases h

/-- A step that touches none of the list's blocks. -/
theorem LrC.stp {F : Nat → Prop} (g : LrC w mb lim vk vp vn hd tl sz m D ks ps ns) (s : Stp w w' F) (h0 : ¬ F mb) (h1 : ∀ r, vk.ownBlock = some r → ¬ F r) (h2 : ∀ r, vp.ownBlock = some r → ¬ F r) (h3 : ∀ r, vn.ownBlock = some r → ¬ F r) (h4 : ¬ F m) : LrC w' mb lim vk vp vn hd tl sz m D ks ps ns :=
  ⟨by rw [s.block mb g.mbl h0]; exact g.blk, row_stp g.rk s h1, row_stp g.rp s h2, row_stp g.rn s h3, ownsMap_stp g.mp s h4, g.pn⟩

/-- A field of the struct is written (its rows and its map stay). -/
theorem LrC.field {c' : Array Value} {j : Nat} {u : Value} (g : LrC w mb lim vk vp vn hd tl sz m D ks ps ns) {hd' tl' sz' : Int}
    (hc : (#[.int .i64 lim, vk, vp, vn, .int .i64 hd, .int .i64 tl, .int .i64 sz, .map (some m)] : Array Value).setIfInBounds j u = c') (hc' : c' = #[.int .i64 lim, vk, vp, vn, .int .i64 hd', .int .i64 tl', .int .i64 sz', .map (some m)]) :
    LrC (w.setCell ⟨mb, j, none⟩ u) mb lim vk vp vn hd' tl' sz' m D ks ps ns := by
  have s := Stp.setCell w ⟨mb, j, none⟩ u
  exact ⟨by rw [blk_set g.blk, hc, hc'], row_stp g.rk s (fun r hr e => g.kmb (by rw [hr, e])), row_stp g.rp s (fun r hr e => g.pmb (by rw [hr, e])), row_stp g.rn s (fun r hr e => g.nmb (by rw [hr, e])), ownsMap_stp g.mp s g.mmb, g.pn⟩

theorem LrC.setHd (g : LrC w mb lim vk vp vn hd tl sz m D ks ps ns) (x : Int) : LrC (w.setCell ⟨mb, 4, none⟩ (.int .i64 x)) mb lim vk vp vn x tl sz m D ks ps ns := g.field rfl rfl
theorem LrC.setTl (g : LrC w mb lim vk vp vn hd tl sz m D ks ps ns) (x : Int) : LrC (w.setCell ⟨mb, 5, none⟩ (.int .i64 x)) mb lim vk vp vn hd x sz m D ks ps ns := g.field rfl rfl
theorem LrC.setSz (g : LrC w mb lim vk vp vn hd tl sz m D ks ps ns) (x : Int) : LrC (w.setCell ⟨mb, 6, none⟩ (.int .i64 x)) mb lim vk vp vn hd tl x m D ks ps ns := g.field rfl rfl

/-- The map has turned. -/
theorem LrC.turned {N : Nat} {D' : DataW Unit} (g : LrC w mb lim vk vp vn hd tl sz m D ks ps ns) (hg : w.grownBy w' (some m)) (hm : w'.ownsMap Try.prog 29 (plainElem Try.prog 3) m N D') : LrC w' mb lim vk vp vn hd tl sz m D' ks ps ns :=
  ⟨by rw [hg.block mb g.mbl (fun e => g.mmb (Option.some.inj e).symm)]; exact g.blk, g.rk.kept hg (Or.inr g.km), g.rp.kept hg (Or.inr g.pm), g.rn.kept hg (Or.inr g.nm), ownsMap_tight hm, g.pn⟩

/-- 'next[i] = q'. -/
theorem LrC.setN {r n cap : Nat} (g : LrC w mb lim vk vp (.slice (some ⟨r, 0, none⟩) n cap) hd tl sz m D ks ps ns) (i : Nat) (q : Int) :
    LrC (w.setCell ⟨r, i, none⟩ (.int .i64 q)) mb lim vk vp (.slice (some ⟨r, 0, none⟩) n cap) hd tl sz m D ks ps (ns.set i q) := by
  have s := Stp.setCell w ⟨r, i, none⟩ (.int .i64 q)
  have hnl : ns.length = n := by
    rcases g.rn.2 with ⟨h1, _⟩ | ⟨r', cap', cur, h1, _⟩
    · cases h1
    · simp only [Value.slice.injEq] at h1; exact h1.2.1.symm
  subst hnl
  refine ⟨by rw [s.block mb g.mbl (fun e => g.nmb (by rw [e]; rfl))]; exact g.blk, row_stp g.rk s (fun x hx e => g.kn hx (by rw [e]; rfl)), row_stp g.rp s (fun x hx e => g.pn x hx (by rw [e]; rfl)), ?_, ownsMap_stp g.mp s (fun e => g.nm (by rw [e]; rfl)), g.pn⟩
  have := (g.rn.stored i (.int .i64 q)).1
  simpa [List.map_set] using this

/-- 'prev[i] = q'. -/
theorem LrC.setP {r n cap : Nat} (g : LrC w mb lim vk (.slice (some ⟨r, 0, none⟩) n cap) vn hd tl sz m D ks ps ns) (i : Nat) (q : Int) :
    LrC (w.setCell ⟨r, i, none⟩ (.int .i64 q)) mb lim vk (.slice (some ⟨r, 0, none⟩) n cap) vn hd tl sz m D ks (ps.set i q) ns := by
  have s := Stp.setCell w ⟨r, i, none⟩ (.int .i64 q)
  have hnl : ps.length = n := by
    rcases g.rp.2 with ⟨h1, _⟩ | ⟨r', cap', cur, h1, _⟩
    · cases h1
    · simp only [Value.slice.injEq] at h1; exact h1.2.1.symm
  subst hnl
  refine ⟨by rw [s.block mb g.mbl (fun e => g.pmb (by rw [e]; rfl))]; exact g.blk, row_stp g.rk s (fun x hx e => g.kp hx (by rw [e]; rfl)), ?_, row_stp g.rn s (fun x hx e => g.pn r rfl (by rw [hx, e])), ownsMap_stp g.mp s (fun e => g.pm (by rw [e]; rfl)), g.pn⟩
  have := (g.rp.stored i (.int .i64 q)).1
  simpa [List.map_set] using this

theorem row_cell {e : TypeId} {k : IntKind} {r n cap i : Nat} {xs : List Int} {x : Int} (row : w.ownsRow 0 e 1 (.slice (some ⟨r, 0, none⟩) n cap) xs.length (xs.map (Value.int k))) (hx : xs[i]? = some x) : w.cell? ⟨r, i, none⟩ = some (.int k x) := by
  have hnl : xs.length = n := by
    rcases row.2 with ⟨h1, _⟩ | ⟨r', cap', cur, h1, _⟩
    · cases h1
    · simp only [Value.slice.injEq] at h1; exact h1.2.1.symm
  have hi : i < xs.length := (List.getElem?_eq_some_iff.1 hx).1
  subst hnl
  rw [row.cellAt i (by omega)]
  simp [hx]

theorem row_fr {e : TypeId} {k : IntKind} {r n cap : Nat} {xs : List Int} (row : w.ownsRow 0 e 1 (.slice (some ⟨r, 0, none⟩) n cap) xs.length (xs.map (Value.int k))) (i : Nat) : w.frozen? ⟨r, i, none⟩ = false := by
  have hnl : xs.length = n := by
    rcases row.2 with ⟨h1, _⟩ | ⟨r', cap', cur, h1, _⟩
    · cases h1
    · simp only [Value.slice.injEq] at h1; exact h1.2.1.symm
  subst hnl
  exact row.frozenAt i

/-- A row that holds something has an address. -/
theorem row_shape {e : TypeId} {n : Nat} {v : Value} {xs : List Value} (row : w.ownsRow 0 e 1 v n xs) (hn : 0 < n) : ∃ r cap, v = .slice (some ⟨r, 0, none⟩) n cap := by
  rcases row.2 with ⟨_, h⟩ | ⟨r, cap, cur, hv, _⟩
  · omega
  · exact ⟨r, cap, hv⟩

theorem LrC.look (g : LrC w mb lim vk vp vn hd tl sz m D ks ps ns) {x : Int} (hx : (Lit.int .u64 x).wf = true) : ∃ c : Int, D.atKey (ky x) (el 0) = .lit (.int .i64 c) ∧
    (Instr.lookup 41 (.map (some m)) (.int .u64 x) true).run Try.prog w = .ok (.tuple #[.int .i64 c, .bool (Maps.has D (ky x))]) w := by
  obtain ⟨u, ps, hrun, hu⟩ := g.mp.look_ok law29 Try.underlying41 (zero3 _) (plainElem_int (H := Unit) Try.underlying3 (a := 0) (by decide)) (u64key hx)
  obtain ⟨c, rfl, hc, _⟩ := plainElem_int_inv Try.underlying3 hu
  simp only [Prod.mk.injEq] at hc
  exact ⟨c, hc.1, hrun⟩

theorem LrC.drop (g : LrC w mb lim vk vp vn hd tl sz m D ks ps ns) {x : Int} (hx : (Lit.int .u64 x).wf = true) (ty : TypeId) : ∃ w1, (Builtin.delete_ #[41, 29] ty #[.map (some m), .int .u64 x]).run Try.prog w = .ok (.tuple #[]) w1 ∧
    LrC w1 mb lim vk vp vn hd tl sz m (D.del (ky x)) ks ps ns ∧ Stp w w1 (fun i => i = m) := by
  obtain ⟨w1, hrun, hown, hturn⟩ := g.mp.drop law29 Try.underlying41 (u64key hx) ty
  exact ⟨w1, hrun, g.turned hturn.grown hown, (Stp.of_grown hturn.grown).mono (fun i h => by simpa using h)⟩

theorem LrC.store (g : LrC w mb lim vk vp vn hd tl sz m D ks ps ns) {x : Int} (hx : (Lit.int .u64 x).wf = true) (p : Nat) (hN : Maps.size D < maxLen) (hp : p ≤ maxLen) : ∃ w1, (Instr.mapUpdate 41 (.map (some m)) (.int .u64 x) (.int .i64 (p : Int))).run Try.prog w = .ok () w1 ∧
    LrC w1 mb lim vk vp vn hd tl sz m (D.put (ky x) (el p)) ks ps ns ∧ Stp w w1 (fun i => i = m) := by
  have hwf : (Lit.int .i64 (p : Int)).wf = true := WalkArith.wf_i64 (by unfold maxLen at hp; omega)
  obtain ⟨w1, hrun, hown, hturn⟩ := g.mp.store law29 Try.underlying41 hN (u64key hx) (plainElem_int (H := Unit) Try.underlying3 hwf)
  exact ⟨w1, hrun, g.turned hturn.grown hown, (Stp.of_grown hturn.grown).mono (fun i h => by simpa using h)⟩
end

/-! ### append onto one of the rows -/
/-- What an append onto an owned row of numbers leaves. -/
theorem run_row_append {w : World} {e t ty : TypeId} {k : IntKind} {v : Value} {n : Nat} {xs : List Value} {i0 : TypeInfo} (ht : Try.prog.underlying t = some (.slice e)) (hi : Try.prog.info? e = some i0) (hz0 : i0.zero = some (.int k 0)) (hz1 : i0.size = 1) (hz2 : i0.bytes = 8)
    (row : w.ownsRow 0 e 1 v n xs) (hn : n < 1048576) (x : Int) :
    ∃ r cap w', (Builtin.append_ #[t, t] ty #[v, .slice (some ⟨w.heap.size, 0, none⟩) 1 1]).run Try.prog (w.alloc (.cells #[.int k x] e)) = .ok (.slice (some ⟨r, 0, none⟩) (n + 1) cap) w' ∧
      w'.ownsRow 0 e 1 (.slice (some ⟨r, 0, none⟩) (n + 1) cap) (n + 1) (xs ++ [.int k x]) ∧ Stp w w' (fun i => v.ownBlock = some i) ∧ (v.ownBlock = some r ∨ w.heap.size ≤ r) := by
  obtain ⟨v', w2, hrun, hown, hgrow, _, hloc⟩ := run_append_own_at (P := Try.prog) (w.alloc (.cells #[.int k x] e)) 0 t ty e i0 (.int k 0) 1 8 ht hi hz0 hz1 hz2 rfl (by decide) v n xs (row.alloc _) ⟨w.heap.size, 0, none⟩ 1 1 [.int k x] rfl (cell_one_new _ _ _) (ints_oneCell k [x]) (by unfold maxLen; omega) (by omega) (Nat.zero_le _)
  obtain ⟨r, cap, rfl⟩ : ∃ r cap, v' = .slice (some ⟨r, 0, none⟩) (n + 1) cap := by
    rcases hown.2 with ⟨_, h2⟩ | ⟨r, cap, cur, h1, _⟩
    · omega
    · exact ⟨r, cap, h1⟩
  refine ⟨r, cap, w2, hrun, hown, (Stp.alloc w _ _).trans ((Stp.of_grown hgrow).mono (fun i h => h.symm)) (fun i h => .inl h), ?_⟩
  rcases hloc with h1 | h1
  · exact .inl h1.symm
  · right
    simp [Value.ownBlock] at h1
    omega

theorem wpList_row_append {ops : Array Oper} {rest : List Oper} {o : Oper} {a : Act} {Q : Exit → Act → World → Prop} {w : World} {e t : TypeId} {k : IntKind} {v : Value} {n : Nat} {xs : List Value} {i0 : TypeInfo} (ht : Try.prog.underlying t = some (.slice e)) (hi : Try.prog.info? e = some i0) (hz0 : i0.zero = some (.int k 0)) (hz1 : i0.size = 1) (hz2 : i0.bytes = 8)
    (row : w.ownsRow 0 e 1 v n xs) (hn : n < 1048576) (y : Int) (hgd : o.guard = none) (s x : Operand) (ho : o.op = .call { callee := .builtin .append, args := #[s, x], argTypes := #[t, t] }) (hs1 : a.eval s = v) (hx : a.eval x = .slice (some ⟨w.heap.size, 0, none⟩) 1 1)
    (hK : ∀ r cap w', w'.ownsRow 0 e 1 (.slice (some ⟨r, 0, none⟩) (n + 1) cap) (n + 1) (xs ++ [.int k y]) → Stp w w' (fun i => v.ownBlock = some i) → (v.ownBlock = some r ∨ w.heap.size ≤ r) → wpList Try.prog ops Q rest (a.put o.dst (.slice (some ⟨r, 0, none⟩) (n + 1) cap)) w') :
    wpList Try.prog ops Q (o :: rest) a (w.alloc (.cells #[.int k y] e)) := by
  refine wpList_plain hgd fun K hK' => ?_
  obtain ⟨r, cap, w2, hrun, h1, h2, h3⟩ := run_row_append (ty := o.type) ht hi hz0 hz1 hz2 row hn y
  unfold Oper.wp execOp
  simp only [ho, resolve, invoke, builtin, Sem.run_bind, Sem.run_pure, Result.andThen_ok, List.map_toArray, List.map_cons, List.map_nil, hs1, hx, hrun]
  exact hK' _ _ (hK r cap w2 h1 h2 h3)

/-- .. as one step of a region that draws. -/
theorem step_row_append {ops : Array Oper} {o : Oper} {a : Act} {K : Act → World → Prop} {Q : Exit → Act → World → Prop} {E : Prop} {w : World} {e t : TypeId} {k : IntKind} {v : Value} {n : Nat} {xs : List Value} {i0 : TypeInfo} (ht : Try.prog.underlying t = some (.slice e)) (hi : Try.prog.info? e = some i0) (hz0 : i0.zero = some (.int k 0)) (hz1 : i0.size = 1) (hz2 : i0.bytes = 8)
    (row : w.ownsRow 0 e 1 v n xs) (hn : n < 1048576) (y : Int) (hgd : o.guard = none) (s x : Operand) (ho : o.op = .call { callee := .builtin .append, args := #[s, x], argTypes := #[t, t] }) (hs1 : a.eval s = v) (hx : a.eval x = .slice (some ⟨w.heap.size, 0, none⟩) 1 1)
    (hK : ∀ r cap w', w'.ownsRow 0 e 1 (.slice (some ⟨r, 0, none⟩) (n + 1) cap) (n + 1) (xs ++ [.int k y]) → Stp w w' (fun i => v.ownBlock = some i) → (v.ownBlock = some r ∨ w.heap.size ≤ r) → K (a.put o.dst (.slice (some ⟨r, 0, none⟩) (n + 1) cap)) w') :
    if Region.wanted o (yielded ops a.tmps) = true then Oper.wp Try.prog o a (w.alloc (.cells #[.int k y] e)) K Q else E := by
  have hw : Region.wanted o (yielded ops a.tmps) = true := by simp [Region.wanted, hgd]
  rw [if_pos hw]
  obtain ⟨r, cap, w2, hrun, h1, h2, h3⟩ := run_row_append (ty := o.type) ht hi hz0 hz1 hz2 row hn y
  unfold Oper.wp execOp
  simp only [ho, resolve, invoke, builtin, Sem.run_bind, Sem.run_pure, Result.andThen_ok, List.map_toArray, List.map_cons, List.map_nil, hs1, hx, hrun]
  exact hK r cap w2 h1 h2 h3

end Go.Proofs.Qxb6603426a
