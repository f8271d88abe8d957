/-
  THE PROOF OF 'Rows.FnTokenFromPartsSaid'. The frame is the guide's (the shells of the seats' other laws), turned to an array by value; the walk is in Qxb6603750aFrom.
-/
import Derived.Test.Qxb6603750aRows
import Derived.Test.Qxb6603750aFrom
import Derived.WalkKit
import Derived.ProofKit
import Derived.OpenShut
import Derived.ShutString
import Derived.ChangeOld
import Derived.Below
namespace Go.Proofs.Qxb6603750a.fnTokenFromParts
open Go.ChangeShapes Go.WideShapes Go.ChangeAt Go.RowKit
open Go.ChangeMaps (open_string shut_string)
set_option linter.unusedVariables false

theorem own : ownKnob Try.prog.godebug = none := by kernel_rfl
theorem laidOut : laidOutB Try.prog = true := by kernel_rfl
theorem cells5 : Try.prog.cellsOf 5 = 1 := by kernel_rfl
theorem cells23 : Try.prog.cellsOf 23 = 28 := by kernel_rfl

/-- An array of 28 bytes by value: its bytes. -/
theorem open_policy {H : Type} {enc : TypeId × Value → H} {W : World} {base : Nat} {sp : Nat → Bool} {held : Bool} {cs : Array Value} {d : DataW H} {p : List MemPlace} (hs : cs.size = 28) (h : DataW.Trod enc Try.prog W base sp held 23 (.agg cs) d p) :
    cs.toList = (cs.toList.map intOf).map (Value.int .u8) ∧ (cs.toList.map intOf).length = 28 ∧ ∀ x ∈ cs.toList.map intOf, 0 ≤ x ∧ x ≤ 255 := by
  obtain ⟨fuel, hf⟩ := h
  obtain ⟨xs, m, _, _, _, hl, hx⟩ := DataW.trod_array Try.underlying23 hf
  have key : ∀ i, i < 28 → ∃ n, cs.toList[i]? = some (.int .u8 n) ∧ (Lit.int .u8 n).wf = true := by
    intro i hi
    have h1 := hx i hi
    rw [cells5, Nat.mul_one] at h1
    have h2 : xs[i]? = some xs[i] := List.getElem?_eq_getElem (by omega)
    rw [h2] at h1
    obtain ⟨n, e, _, hw⟩ := DataW.trod_int Try.underlying5 h1
    refine ⟨n, ?_, hw⟩
    have e' : ((Value.agg cs).cells.toList.drop i).take 1 = [.int .u8 n] := e
    have h3 : ((Value.agg cs).cells.toList.drop i)[0]? = some (.int .u8 n) := by
      have := congrArg (fun l => l[0]?) e'
      simpa [List.getElem?_take] using this
    rw [List.getElem?_drop] at h3
    simpa [Value.cells] using h3
  have hlen : cs.toList.length = 28 := by rw [Array.length_toList]; exact hs
  refine ⟨?_, by rw [List.length_map]; exact hlen, fun x hx => ?_⟩
  · apply List.ext_getElem?
    intro i
    by_cases hi : i < 28
    · obtain ⟨n, e, _⟩ := key i hi
      rw [List.getElem?_map, List.getElem?_map, e]
      rfl
    · rw [List.getElem?_eq_none (by omega), List.getElem?_eq_none (by simp; omega)]
  · obtain ⟨v, hv, rfl⟩ := List.mem_map.1 hx
    obtain ⟨i, hi, e⟩ := List.getElem_of_mem hv
    obtain ⟨n, e', hw⟩ := key i (by omega)
    rw [List.getElem?_eq_getElem hi, e] at e'
    rw [Option.some.inj e']
    exact bounds_u8 hw

set_option maxRecDepth 100000 in
theorem lifted (os : Os) (started : os.Started) (H : Type) (enc : TypeId × Value → H) :
    ReturnsInHanded {} Try.checked os 5 .any (Rows.fnTokenFromPartsSpec.pre6 enc Try.prog Try.f5 Rows.fnTokenFromPartsRow.domain false) (Rows.fnTokenFromPartsSpec.post enc Try.prog Try.f5 false true false false) := by
  refine returnsInHanded_of_change (C := Try.checked) own started (by kernel_rfl) Try.func5
    (ChangeSpec.witness6 (enc := enc) (C := Try.checked) false ⟨#[], #[.agg (Array.replicate 28 (.int .u8 0)), .slice none 0 0, .bool false], []⟩ 8 (by kernel_rfl) (by kernel_rfl) (by kernel_rfl) (by kernel_rfl)) ?_
  intro W base args ds gs before hval0 hW hcnd _
  have hval : ∀ (j : Nat) t v, Try.f5.params[j]? = some t → args[j]? = some v → Value.okWide Try.prog W .any base t v := hval0
  have hW' := hW
  obtain ⟨p, q, hA0, hV, rfl, hfz, hnd⟩ := hW
  have hA : DataW.TrodAll enc Try.prog W 0 (fun _ => true) true Try.f5.params.toList args.toList ds p := hA0
  rw [Try.params5] at hA hval
  obtain ⟨v0, vs0, d0, ds0, p0, q0, hargs, rfl, rfl, h0, r0⟩ := trodAll_cons hA
  obtain ⟨v1, vs1, d1, ds1, p1, q1, rfl, rfl, rfl, h1, r1⟩ := trodAll_cons r0
  obtain ⟨v2, vs2, d2, ds2, p2, q2, rfl, rfl, rfl, h2, r2⟩ := trodAll_cons r1
  obtain ⟨rfl, rfl, rfl⟩ := trodAll_nil r2
  obtain rfl : args = #[v0, v1, v2] := by cases args; simp_all
  obtain ⟨rfl, rfl⟩ := trodVars_none hV
  obtain ⟨cs, rfl, hcs⟩ : ∃ cs, v0 = .agg cs ∧ cs.size = 28 := by
    have h := hval 0 23 v0 rfl rfl
    simp only [Value.okWide, Try.underlying23] at h
    obtain ⟨cs, e1, e2, _⟩ := h
    exact ⟨cs, e1, by rw [e2]; exact cells23⟩
  have k0 := h0
  have lt0 : ∀ x ∈ p0, x.block < W.heap.size := by obtain ⟨m, hm⟩ := k0; exact DataW.trod_lt m _ _ _ hm
  obtain ⟨hp1, hp2, hp3⟩ := open_policy hcs h0
  obtain ⟨a1, len1, cap1, rfl⟩ := okWide_slice Try.underlying24 (hval 1 24 v1 rfl rfl)
  have k1 := h1
  have lt1 : ∀ x ∈ p1, x.block < W.heap.size := by obtain ⟨m, hm⟩ := k1; exact DataW.trod_lt m _ _ _ hm
  obtain ⟨z1, w1⟩ : ∃ zs, IsRow .u8 W a1 len1 cap1 zs := by
    obtain ⟨fuel, hf⟩ := h1
    rcases open_ints Try.underlying24 Try.underlying5 (by kernel_rfl) hf with ⟨hcs, _⟩ | ⟨x, l, c, zs, hcs, _, hl, hm, hz, _, hcell, hwz⟩
    · simp [Value.cells] at hcs
      obtain ⟨rfl, rfl, rfl⟩ := hcs
      exact ⟨[], .inl ⟨rfl, rfl, rfl, rfl⟩⟩
    · simp [Value.cells] at hcs
      obtain ⟨rfl, rfl, rfl⟩ := hcs
      exact ⟨zs, .inr ⟨_, rfl, hl, hm, by simpa using hz, hcell, hwz⟩⟩
  obtain ⟨a2, rfl, rfl, rfl⟩ := open_bool Try.underlying4 (hval 2 4 v2 rfl rfl) h2
  clear hA0 hval0
  refine (parts_walk cs (cs.toList.map intOf) hp1 hp2 hp3 a1 len1 cap1 z1 a2 W w1).mono fun e W' ⟨he, bel⟩ => ?_
  subst he
  exact ⟨_, rfl, _, _, _, [], _, [], hW', trodAll_mk1 (shut_bool Try.underlying4 _), (trodAll_cons_mk (Below.trod laidOut (by kernel_rfl) (of_decide_eq_true (by kernel_rfl)) k0 bel lt0) (trodAll_cons_mk (Below.trod laidOut (by kernel_rfl) (of_decide_eq_true (by kernel_rfl)) k1 bel lt1) (trodAll_cons_mk (shut_bool Try.underlying4 _) trodAll_mk0))), rfl, bel.frame _, fun h => by cases h⟩

theorem over : Rows.fnTokenFromPartsRow.holds Try.pinned (OpenSpec.ofChange Rows.fnTokenFromPartsSpec) :=
  OpenClaim.holds_of_wide 5 Try.f5 rfl rfl rfl rfl rfl rfl rfl ⟨rfl, rfl, rfl, rfl, rfl⟩ rfl rfl rfl rfl rfl (by kernel_rfl) Try.func5 (by kernel_rfl)
    (of_decide_eq_true (by kernel_rfl)) (by unfold Func.isWrapper; first | (rw [if_pos (by decide +kernel)]; kernel_rfl) | (rw [if_neg (by decide +kernel)]; exact ⟨rfl, rfl⟩))
    (fun os started H enc _ => lifted os started H enc)

/-- THE STATEMENT -/
theorem proved : Rows.FnTokenFromPartsSaid := over
#print axioms proved
end Go.Proofs.Qxb6603750a.fnTokenFromParts
