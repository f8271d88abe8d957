/-
  THE WALK OF THE LAW FnTokenFromParts.
-/
import Derived.Test.Qxb6603750aParts
import Derived.Deep.RegionWith
namespace Go.Proofs.Qxb6603750a
open Go.RowKit

set_option maxHeartbeats 400000 in
theorem bytes14 (cs : Array Value) (d : Bool) (a : Option Addr) (len cap : Nat) (w : World) (h : len ≤ 1048576) : Calls Try.prog 14 #[.agg cs, .slice a len cap, .bool d] w fun e w' => e = .returned (.bool true) ∧ Stp w w' := by
  have h' : ¬ (1048576 : Int) < (len : Int) := by omega
  go_enter Try.func14, Try.ntmps14
  go_wp2
  go_ret
  exact ⟨rfl, Stp.alloc _ _⟩

set_option maxHeartbeats 400000 in
theorem bytes14_no (cs : Array Value) (d : Bool) (a : Option Addr) (len cap : Nat) (w : World) (h : 1048576 < len) : Calls Try.prog 14 #[.agg cs, .slice a len cap, .bool d] w fun e w' => e = .returned (.bool false) ∧ Stp w w' := by
  have h' : (1048576 : Int) < (len : Int) := by omega
  go_enter Try.func14, Try.ntmps14
  go_wp2
  go_ret
  exact ⟨rfl, Stp.alloc _ _⟩

theorem size23 : (Try.prog.info? 23).map (·.size) = some 28 := by kernel_rfl

theorem IsRow.stp {k : IntKind} {w w' : World} {a : Option Addr} {len cap : Nat} {zs : List Int} (h : IsRow k w a len cap zs) (s : Stp w w') : IsRow k w' a len cap zs := by
  rcases h with h | ⟨x, h1, h2, h3, h4, h5, h6⟩
  · exact .inl h
  · exact .inr ⟨x, h1, h2, h3, h4, fun i hi => s.cell (h5 i hi), h6⟩

theorem row_stp {w w' : World} {e : TypeId} {v : Value} {n : Nat} {xs : List Value} (row : w.ownsRow 0 e 1 v n xs) (s : Stp w w') : w'.ownsRow 0 e 1 v n xs := by
  refine ⟨row.1, ?_⟩
  rcases row.2 with h | ⟨g, cap, cur, hv, hb, hg, r⟩
  · exact .inl h
  · refine .inr ⟨g, cap, cur, hv, hb, ?_, r⟩
    rw [s.block g (Array.getElem?_eq_some_iff.1 hg).1]
    exact hg

/-- append onto a row of bytes of the call's own. -/
theorem wpList_bytes_append {ops : Array Oper} {rest : List Oper} {o : Oper} {a : Act} {Q : Exit → Act → World → Prop} {w : World} {r0 n cap : Nat} {xs : List Int} (row : w.ownsRow 0 5 1 (.slice (some ⟨r0, 0, none⟩) n cap) n (xs.map (Value.int .u8))) (hn0 : 0 < n)
    (hgd : o.guard = none) (s x : Operand) (ho : o.op = .call { callee := .builtin .append, args := #[s, x], argTypes := #[24, 24] }) (hs : a.eval s = .slice (some ⟨r0, 0, none⟩) n cap) (ad : Addr) (m c : Nat) (ys : List Int) (hx : a.eval x = .slice (some ad) m c)
    (hl : ys.length = m) (hy : ∀ j u, (ys.map (Value.int .u8))[j]? = some u → w.cell? (ad.add j) = some u) (hb : n + m ≤ 1048576)
    (hK : ∀ r cap' w', w'.ownsRow 0 5 1 (.slice (some ⟨r, 0, none⟩) (n + m) cap') (n + m) ((xs ++ ys).map (Value.int .u8)) → w.grownBy w' (some r0) → (r = r0 ∨ w.heap.size ≤ r) → wpList Try.prog ops Q rest (a.put o.dst (.slice (some ⟨r, 0, none⟩) (n + m) cap')) w') :
    wpList Try.prog ops Q (o :: rest) a w := by
  obtain ⟨i0, hi, hz0, hz1, hz2⟩ := info_parts Try.info5
  refine wpList_append_own_at w hgd s x 24 ho 0 5 i0 (.int .u8 0) 1 1 Try.underlying24 hi hz0 hz1 hz2 rfl (by decide) _ _ _ hs row ad m c (ys.map (Value.int .u8)) hx (by simp [hl]) hy (ints_oneCell .u8 ys) (by unfold maxLen; omega) (by omega) (Nat.zero_le _) ?_
  intro v' w' hown hgrow _ hloc
  obtain ⟨r, cap', rfl⟩ : ∃ r cap', v' = .slice (some ⟨r, 0, none⟩) (n + m) cap' := by
    rcases hown.2 with ⟨_, h⟩ | ⟨r, cap, cur, h, _⟩
    · omega
    · exact ⟨r, cap, h⟩
  refine hK r cap' w' (by rw [List.map_append]; exact hown) hgrow ?_
  rcases hloc with h | h
  · left; simpa [Value.ownBlock] using h
  · right; simp [Value.ownBlock] at h; omega

/-- The policy's bytes in the block that they were boxed in. -/
theorem policy_arr {w w' : World} {cs : Array Value} {ps : List Int} (hps : cs.toList = ps.map (Value.int .u8)) (hl : ps.length = 28) (hb : ∀ x ∈ ps, 0 ≤ x ∧ x ≤ 255) (s : Stp (w.alloc (.cells cs 23)) w') : BArr w' w.heap.size (.slice (some ⟨w.heap.size, 0, none⟩) 28 28) ps := by
  refine ⟨fun i w'' h => bidx_row _ _ _ i w'' (by omega), fun i x hx => s.cell ?_, hb⟩
  have hg := heap_alloc_new w (.cells cs 23)
  have h1 : cs[i]? = some (.int .u8 x) := by
    rw [← Array.getElem?_toList, hps, List.getElem?_map, hx]
    rfl
  simp only [World.cell?, hg]
  simpa using h1

set_option maxHeartbeats 1000000 in
theorem parts_walk (cs : Array Value) (ps : List Int) (hps : cs.toList = ps.map (Value.int .u8)) (hpl : ps.length = 28) (hpb : ∀ x ∈ ps, 0 ≤ x ∧ x ≤ 255) (a1 : Option Addr) (len1 cap1 : Nat) (z1 : List Int) (d : Bool) (w : World) (w1 : IsRow .u8 w a1 len1 cap1 z1) :
    Calls Try.prog 5 #[.agg cs, .slice a1 len1 cap1, .bool d] w fun e w' => e = .returned (.bool true) ∧ Below w.heap.size w w' := by
  have hcs : cs.size = 28 := by rw [← Array.length_toList, hps, List.length_map, hpl]
  have hi : (Try.prog.info? 23).map (·.size) = some cs.size := by rw [hcs]; exact size23
  have hg := heap_alloc_new w (.cells cs 23)
  have HC : Hid (cs.size = 28) := hcs
  have HPS : Hid (cs.toList = ps.map (Value.int .u8)) := hps
  have HPL : Hid (ps.length = 28) := hpl
  clear hcs hps hpl
  have s0 : Stp w (w.alloc (.cells cs 23)) := Stp.alloc _ _
  by_cases h1 : 1048576 < len1
  · go_enter Try.func5, Try.ntmps5
    go_wp2_with (first | (go_at_call 14; refine (bytes14_no _ _ _ _ _ _ h1).mono ?_; rintro e w' ⟨rfl, s'⟩) | (refine wpList_load_row rfl 23 _ rfl w.heap.size rfl 23 cs (0, 0) _ hg Try.underlying23 rfl hi ?_))
    go_ret
    exact ⟨rfl, (s0.trans s').below⟩
  by_cases h2 : (65536 : Int) < (len1 : Int)
  · go_enter Try.func5, Try.ntmps5
    go_wp2_with (first | (go_at_call 14; refine (bytes14 _ _ _ _ _ _ (by omega)).mono ?_; rintro e w' ⟨rfl, s'⟩) | (refine wpList_load_row rfl 23 _ rfl w.heap.size rfl 23 cs (0, 0) _ hg Try.underlying23 rfl hi ?_))
    go_ret
    exact ⟨rfl, (s0.trans s').below⟩
  cases d
  · go_enter Try.func5, Try.ntmps5
    go_wp2_with (first | (go_at_call 14; refine (bytes14 _ _ _ _ _ _ (by omega)).mono ?_; rintro e wA ⟨rfl, sA⟩; have rA := IsRow.stp w1 (s0.trans sA)) | (go_at_call 15; refine (clone_any rA (by omega)).mono ?_; rintro e wB ⟨ao, c2, rfl, arr, sB, hnl⟩; have pol := policy_arr HPS.out HPL.out hpb (sA.trans sB)) | (go_at_call 16; refine (enc_any (by omega) HPL.out pol).mono ?_; rintro e wC ⟨rfl, rowC, sC⟩; obtain ⟨S, hconv, hS⟩ := conv_row rowC) | (refine wpList_load_row rfl 23 _ rfl w.heap.size rfl 23 cs (0, 0) _ hg Try.underlying23 rfl hi ?_))
    have hSz : S.size ≤ maxLen := by
      rw [← size_len, hS, List.length_map, encI_length, HPL.out]; unfold maxLen; omega
    have HT : Hid (tokB S.data.toList = true) := by rw [hS]; exact tok_policy ps HPL.out hpb
    refine (token_any S _ hSz HT).mono ?_
    rintro e w' ⟨rfl, rfl⟩
    go_wp2
    go_ret
    exact ⟨rfl, (((s0.trans sA).trans sB).trans sC).below⟩
  · go_enter Try.func5, Try.ntmps5
    go_wp2_with (first | (go_at_call 14; refine (bytes14 _ _ _ _ _ _ (by omega)).mono ?_; rintro e wA ⟨rfl, sA⟩; have rA := IsRow.stp w1 (s0.trans sA)) | (go_at_call 15; refine (clone_any rA (by omega)).mono ?_; rintro e wB ⟨ao, c2, rfl, arr, sB, hnl⟩; have pol := policy_arr HPS.out HPL.out hpb (sA.trans sB)) | (go_at_call_of 16 (Value.slice (some (Addr.mk w.heap.size 0 none)) 28 28); refine (enc_any (by omega) HPL.out pol).mono ?_; rintro e wC ⟨rfl, rowC, sC⟩) | (refine wpList_load_row rfl 23 _ rfl w.heap.size rfl 23 cs (0, 0) _ hg Try.underlying23 rfl hi ?_) | (at_builtin; refine wpList_bytes_append (rowC.alloc _) (by omega) rfl (.tmp 22) (.tmp 23) rfl rfl ⟨wC.heap.size, 0, none⟩ 1 1 [46] rfl rfl (cell_one_new _ _ _) (by omega) ?_; intro rD cD wD rowD grD locD))
    obtain ⟨nm, hnm⟩ : ∃ nm, nm = z1.take len1 := ⟨_, rfl⟩
    rw [← hnm] at arr hnl
    have HNL : Hid (nm.length = len1) := hnl
    clear hnm hnl w1 rA
    have sC' : Stp w wC := ((s0.trans sA).trans sB).trans sC
    have sD : Stp w wD := (sC'.trans (Stp.alloc _ _)).grown grD (fun r h => by
      have e := Option.some.inj h
      rw [← e]; exact ((s0.trans sA).trans sB).size)
    have arrD : BArr wD wA.heap.size (.slice ao len1 c2) nm := ⟨arr.idx, fun i x hx => by
      have h0 := arr.cell i x hx
      have hlt := World.block_lt_of_cell? wB _ h0
      have h1 := (Stp.alloc wC (.cells #[.int .u8 46] 5)).cell (sC.cell h0)
      rw [World.cell?_of_block (w := wC.alloc (.cells #[.int .u8 46] 5)) (grD.block _ (World.block_lt_of_cell? _ _ h1) (fun e => by have := Option.some.inj e; simp at this hlt; omega))]
      exact h1, arr.bd⟩
    refine (enc_any (by omega) HNL.out arrD).mono ?_
    rintro e wE ⟨rfl, rowE, sE⟩
    have rowD' := row_stp rowD sE
    have hrD : w.heap.size ≤ rD := by
      have q1 := ((s0.trans sA).trans sB).size
      have q2 := (sC'.trans (Stp.alloc wC (.cells #[.int .u8 46] 5))).size
      omega
    have sE' : Stp w wE := sD.trans sE
    have hnb := arr.bd
    have hE0 : ∀ j u, ((encI nm).map (Value.int .u8))[j]? = some u → wE.cell? ((⟨wD.heap.size, 0, none⟩ : Addr).add j) = some u := rowE.cells rfl
    have HE1 : Hid ((encI nm).length = 2 * len1) := by show _ = _; rw [encI_length, HNL.out]
    clear rowD grD locD rowC arr pol arrD rowE sD sC' sE sC sB sA
    have hw : ∀ b : Bool, (decide (1 ≤ len1) && decide (len1 ≤ 32)) = b → ∀ (S : ByteArray), S.data.toList = (encI ps ++ [46] ++ encI nm).map ub → Hid (tokB S.data.toList = b) ∧ S.size ≤ maxLen := by
      intro b hb S hS
      constructor
      · show _ = _
        rw [hS, tok_parts ps nm HPL.out hpb hnb, HNL.out, hb]
      · rw [← size_len, hS, List.length_map]
        simp only [List.length_append, encI_length, HPL.out, HNL.out, List.length_cons, List.length_nil]
        unfold maxLen
        omega
    have HW : Hid (∀ b : Bool, (decide (1 ≤ len1) && decide (len1 ≤ 32)) = b → ∀ (S : ByteArray), S.data.toList = (encI ps ++ [46] ++ encI nm).map ub → Hid (tokB S.data.toList = b) ∧ S.size ≤ maxLen) := hw
    clear hw
    by_cases hg1 : (1 : Int) ≤ (len1 : Int)
    · by_cases hg2 : (len1 : Int) ≤ 32
      · go_wp2_with (at_builtin; refine wpList_bytes_append rowD' (by omega) rfl (.tmp 25) (.tmp 27) rfl rfl ⟨wD.heap.size, 0, none⟩ (2 * len1) (2 * len1) (encI nm) rfl HE1.out hE0 (by omega) ?_; intro rF cF wF rowF grF locF; obtain ⟨S, hconv, hS⟩ := conv_row rowF)
        obtain ⟨HT, hSz⟩ := HW.out true (by rw [decide_eq_true (by omega), decide_eq_true (by omega)]; rfl) S hS
        refine (token_any S _ hSz HT).mono ?_
        rintro e w' ⟨rfl, rfl⟩
        go_wp2
        go_ret
        exact ⟨rfl, (sE'.grown grF (fun r h => by rw [← Option.some.inj h]; exact hrD)).below⟩
      · go_wp2_with (at_builtin; refine wpList_bytes_append rowD' (by omega) rfl (.tmp 25) (.tmp 27) rfl rfl ⟨wD.heap.size, 0, none⟩ (2 * len1) (2 * len1) (encI nm) rfl HE1.out hE0 (by omega) ?_; intro rF cF wF rowF grF locF; obtain ⟨S, hconv, hS⟩ := conv_row rowF)
        obtain ⟨HT, hSz⟩ := HW.out false (by rw [decide_eq_false (show ¬ len1 ≤ 32 by omega), Bool.and_false]) S hS
        refine (token_any S _ hSz HT).mono ?_
        rintro e w' ⟨rfl, rfl⟩
        go_wp2
        go_ret
        exact ⟨ret_bool (by rw [decide_eq_false (show ¬ (len1 : Int) ≤ 32 by omega)]; rfl), (sE'.grown grF (fun r h => by rw [← Option.some.inj h]; exact hrD)).below⟩
    · go_wp2_with (at_builtin; refine wpList_bytes_append rowD' (by omega) rfl (.tmp 25) (.tmp 27) rfl rfl ⟨wD.heap.size, 0, none⟩ (2 * len1) (2 * len1) (encI nm) rfl HE1.out hE0 (by omega) ?_; intro rF cF wF rowF grF locF; obtain ⟨S, hconv, hS⟩ := conv_row rowF)
      obtain ⟨HT, hSz⟩ := HW.out false (by rw [decide_eq_false (show ¬ 1 ≤ len1 by omega), Bool.false_and]) S hS
      refine (token_any S _ hSz HT).mono ?_
      rintro e w' ⟨rfl, rfl⟩
      go_wp2
      go_ret
      exact ⟨rfl, (sE'.grown grF (fun r h => by rw [← Option.some.inj h]; exact hrD)).below⟩

end Go.Proofs.Qxb6603750a
