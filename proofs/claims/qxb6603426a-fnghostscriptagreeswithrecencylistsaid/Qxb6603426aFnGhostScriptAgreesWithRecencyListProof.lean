/-
  THE PROOF OF 'Rows.FnGhostScriptAgreesWithRecencyListSaid'. The frame is the guide's (the shells of this seat's other laws), turned to a slice of structs; the walk is in Qxb6603426aScript.
-/
import Derived.Test.Qxb6603426aRows
import Derived.Test.Qxb6603426aScript
import Derived.WalkKit
import Derived.ProofKit
import Derived.OpenShut
import Derived.ShutString
import Derived.ChangeOld
import Derived.Below
import Derived.Deep.SlicePairs
namespace Go.Proofs.Qxb6603426a.fnGhostScriptAgreesWithRecencyList
open Go.ChangeShapes Go.WideShapes Go.ChangeAt Go.RowKit
open Go.ChangeMaps (open_string shut_string)
set_option linter.unusedVariables false

theorem own : ownKnob Try.prog.godebug = none := by kernel_rfl
theorem laidOut : laidOutB Try.prog = true := by kernel_rfl

theorem cells31 : Try.prog.cellsOf 31 = 2 := by kernel_rfl
theorem cells4 : Try.prog.cellsOf 4 = 1 := by kernel_rfl
theorem cells29 : Try.prog.cellsOf 29 = 1 := by kernel_rfl

def boolOf : Value → Bool
  | .bool b => b
  | _ => false

/-! ### THE ROW's STEP: WRITTEN OUT: LEAVE IT -/
set_option maxRecDepth 100000 in
theorem lifted (os : Os) (started : os.Started) (H : Type) (enc : TypeId × Value → H) :
    ReturnsInHanded {} Try.checked os 3 .any (Rows.fnGhostScriptAgreesWithRecencyListSpec.pre6 enc Try.prog Try.f3 Rows.fnGhostScriptAgreesWithRecencyListRow.domain false) (Rows.fnGhostScriptAgreesWithRecencyListSpec.post enc Try.prog Try.f3 false true false false) := by
  refine returnsInHanded_of_change (C := Try.checked) own started (by kernel_rfl) Try.func3
    (ChangeSpec.witness6 (enc := enc) (C := Try.checked) false ⟨#[], #[.int .i64 0, .slice none 0 0], []⟩ 8 (by kernel_rfl) (by kernel_rfl) (by kernel_rfl) (by kernel_rfl)) ?_
  intro W base args ds gs before hval0 hW hcnd _
  have hval : ∀ (j : Nat) t v, Try.f3.params[j]? = some t → args[j]? = some v → Value.okWide Try.prog W .any base t v := hval0
  have hW' := hW
  obtain ⟨p, q, hA0, hV, rfl, hfz, hnd⟩ := hW
  have hA : DataW.TrodAll enc Try.prog W 0 (fun _ => true) true Try.f3.params.toList args.toList ds p := hA0
  rw [Try.params3] at hA hval
  obtain ⟨v0, vs0, d0, ds0, p0, q0, hargs, rfl, rfl, h0, r0⟩ := trodAll_cons hA
  obtain ⟨v1, vs1, d1, ds1, p1, q1, rfl, rfl, rfl, h1, r1⟩ := trodAll_cons r0
  obtain ⟨rfl, rfl, rfl⟩ := trodAll_nil r1
  obtain rfl : args = #[v0, v1] := by cases args; simp_all
  obtain ⟨rfl, rfl⟩ := trodVars_none hV
  obtain ⟨a0, rfl, rfl, rfl, w0⟩ := open_int Try.underlying3 (hval 0 3 v0 rfl rfl) h0
  obtain ⟨a1, len1, cap1, rfl⟩ := okWide_slice Try.underlying22 (hval 1 22 v1 rfl rfl)
  have k1 := h1
  have lt1 : ∀ x ∈ p1, x.block < W.heap.size := by obtain ⟨m, hm⟩ := k1; exact DataW.trod_lt m _ _ _ hm
  obtain ⟨fs, hs, w1⟩ : ∃ fs hs, IsOps W a1 len1 cap1 fs hs := by
    obtain ⟨fuel, hf⟩ := h1
    rcases Deep.open_slice_pairs Try.underlying22 Try.underlying31 cells31 rfl rfl cells4 cells29 hf with ⟨hcs, _⟩ | ⟨x, l, c, m, n, V0, V1, D0, D1, P0, P1, hcs, _, hl, hm, hmm, _, hcell⟩
    · simp [Value.cells] at hcs
      obtain ⟨rfl, rfl, rfl⟩ := hcs
      exact ⟨fun _ => false, fun _ => 0, .inl ⟨rfl, rfl, rfl⟩⟩
    · simp [Value.cells] at hcs
      obtain ⟨rfl, rfl, rfl⟩ := hcs
      have hlm : len1 ≤ m := by rw [hmm]; split <;> omega
      by_cases h0 : len1 = 0
      · exact ⟨fun _ => false, fun _ => 0, .inr (.inl ⟨h0, x, rfl⟩)⟩
      · obtain ⟨xb, xo, sp⟩ := x
        have hspot : sp = none := by
          have := (hcell 0 (by omega)).1
          simpa [Addr.add] using World.cell?_spot this
        subst hspot
        refine ⟨fun i => boolOf (V0 i), fun i => intOf (V1 i), .inr (.inr ⟨xb, xo, rfl, by omega, hl, hm, fun i hi => ?_⟩)⟩
        obtain ⟨g0, g1, g2, g3⟩ := hcell i (by omega)
        obtain ⟨bb, hb, _⟩ := DataW.trod_bool Try.underlying4 g2
        obtain ⟨nn, hn, _, hwf⟩ := DataW.trod_int Try.underlying29 g3
        rw [add_plain] at g0 g1
        simp only [List.cons.injEq, and_true] at hb hn
        rw [hb] at g0
        rw [hn] at g1
        refine ⟨?_, ?_, ?_⟩
        · show W.cell? _ = some (.bool (boolOf (V0 i)))
          rw [hb]; exact g0
        · show W.cell? _ = some (.int .u64 (intOf (V1 i)))
          rw [hn]; exact g1
        · show (Lit.int .u64 (intOf (V1 i))).wf = true
          rw [hn]; exact hwf
  clear hA0 hval0
  refine (script_walk a0 a1 len1 cap1 fs hs W w0 w1).mono fun e W' ⟨he, bel⟩ => ?_
  subst he
  exact ⟨_, rfl, _, _, _, [], _, [], hW', trodAll_mk1 (shut_bool Try.underlying4 _), (trodAll_cons_mk (shut_int Try.underlying3 w0) (trodAll_cons_mk (Below.trod laidOut (by kernel_rfl) (of_decide_eq_true (by kernel_rfl)) k1 bel lt1) trodAll_mk0)), rfl, bel.frame _, fun h => by cases h⟩

theorem over : Rows.fnGhostScriptAgreesWithRecencyListRow.holds Try.pinned (OpenSpec.ofChange Rows.fnGhostScriptAgreesWithRecencyListSpec) :=
  OpenClaim.holds_of_wide 3 Try.f3 rfl rfl rfl rfl rfl rfl rfl ⟨rfl, rfl, rfl, rfl, rfl⟩ rfl rfl rfl rfl rfl (by kernel_rfl) Try.func3 (by kernel_rfl)
    (of_decide_eq_true (by kernel_rfl)) (by unfold Func.isWrapper; first | (rw [if_pos (by decide +kernel)]; kernel_rfl) | (rw [if_neg (by decide +kernel)]; exact ⟨rfl, rfl⟩))
    (fun os started H enc _ => lifted os started H enc)

/-- ████ THE STATEMENT ████ -/
theorem proved : Rows.FnGhostScriptAgreesWithRecencyListSaid := over
#print axioms proved
end Go.Proofs.Qxb6603426a.fnGhostScriptAgreesWithRecencyList
