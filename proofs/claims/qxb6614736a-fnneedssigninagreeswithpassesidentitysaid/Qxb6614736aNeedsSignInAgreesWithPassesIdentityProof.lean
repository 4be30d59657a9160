/- The proof of Rows.FnNeedsSignInAgreesWithPassesIdentitySaid: the frame after the guide's shell, the walk Qxb6614736aPas's. -/
import Derived.Test.Qxb6614736aRows
import Derived.Test.Qxb6614736aPas
import Derived.ProofKit
import Derived.OpenShut
import Derived.Deep.Grids
import Derived.ShutString
import Derived.ChangeOld
namespace Go.Proofs.Qxb6614736a.fnNeedsSignInAgreesWithPassesIdentity
open Go.ChangeShapes Go.WideShapes Go.ChangeAt Go.RowKit
set_option linter.unusedVariables false

theorem own : ownKnob Try.prog.godebug = none := by kernel_rfl
theorem laidOut : laidOutB Try.prog = true := by kernel_rfl

/-- A slice of bools that came in. -/
theorem open_row {H : Type} {enc : TypeId × Value → H} {W : World} {fuel : Nat} {cs : List Value} {x : DataW H × List MemPlace} (h : DataW.trod enc Try.prog W 0 (fun _ => true) true fuel 22 cs = some x) :
    ∃ a xs c, cs = [.slice a xs.length c] ∧ RdP W a xs ∧ xs.length ≤ c ∧ xs.length ≤ maxLen := by
  rcases Go.Deep.open_bools Try.underlying22 Try.underlying4 (by kernel_rfl) h with ⟨rfl, _⟩ | ⟨a, len, cap, B, rfl, _, hl, hm, _, hc⟩
  · exact ⟨none, [], 0, rfl, fun i hi => by simp at hi, by simp, by simp⟩
  · refine ⟨some a, (List.range len).map B, cap, by simp, fun i hi => ?_, by simpa using hl, by simp; omega⟩
    have hi' : i < len := by simpa using hi
    have h1 := hc i (by omega)
    obtain ⟨b, off, spt⟩ := a
    have hspt : spt = none := by
      have := World.cell?_spot (hc 0 (by omega))
      simpa [Addr.add] using this
    subst hspt
    refine ⟨b, off, rfl, ?_⟩
    rw [add_plain] at h1
    rw [h1]
    simp

set_option maxRecDepth 100000 in
theorem lifted (os : Os) (started : os.Started) (H : Type) (enc : TypeId × Value → H) :
    ReturnsInHanded {} Try.checked os 4 .any (Rows.fnNeedsSignInAgreesWithPassesIdentitySpec.pre6 enc Try.prog Try.f4 Rows.fnNeedsSignInAgreesWithPassesIdentityRow.domain false) (Rows.fnNeedsSignInAgreesWithPassesIdentitySpec.post enc Try.prog Try.f4 false true false false) := by
  refine returnsInHanded_of_change (C := Try.checked) own started (by kernel_rfl) Try.func4
    (ChangeSpec.witness6 (enc := enc) (C := Try.checked) false ⟨#[], #[.slice none 0 0], []⟩ 8 (by kernel_rfl) (by kernel_rfl) (by kernel_rfl) (by kernel_rfl)) ?_
  intro W base args ds gs before hval0 hW hcnd _
  have hval : ∀ (j : Nat) t v, Try.f4.params[j]? = some t → args[j]? = some v → Value.okWide Try.prog W .any base t v := hval0
  have hW' := hW
  obtain ⟨p, q, hA0, hV, rfl, hfz, hnd⟩ := hW
  have hA : DataW.TrodAll enc Try.prog W 0 (fun _ => true) true Try.f4.params.toList args.toList ds p := hA0
  rw [Try.params4] at hA hval
  obtain ⟨v0, vs0, d0, ds0, p0, q0, hargs, rfl, rfl, h0, r0⟩ := trodAll_cons hA
  obtain ⟨rfl, rfl, rfl⟩ := trodAll_nil r0
  obtain rfl : args = #[v0] := by cases args; simp_all
  obtain ⟨rfl, rfl⟩ := trodVars_none hV
  obtain ⟨a0, len0, cap0, rfl⟩ := okWide_slice Try.underlying22 (hval 0 22 v0 rfl rfl)
  have k0 := h0
  have lt0 : ∀ x ∈ p0, x.block < W.heap.size := by obtain ⟨m, hm⟩ := k0; exact DataW.trod_lt m _ _ _ hm
  obtain ⟨fuel0, hf0⟩ := h0
  obtain ⟨x0, l0, y0, e0, g0, z0, n0⟩ := open_row hf0
  simp only [Value.cells, List.cons.injEq, and_true, Value.slice.injEq] at e0
  obtain ⟨rfl, rfl, rfl⟩ := e0
  clear hA0 hval0
  refine (pas_any _ _ _ W g0 n0).mono fun e W' ⟨he, bel⟩ => ?_
  subst he
  exact ⟨_, rfl, _, _, _, [], _, [], hW', trodAll_mk1 (shut_bool Try.underlying4 _), (trodAll_cons_mk (Below.trod laidOut (by kernel_rfl) (of_decide_eq_true (by kernel_rfl)) k0 bel lt0) trodAll_mk0), rfl, bel.frame _, fun h => by cases h⟩

theorem over : Rows.fnNeedsSignInAgreesWithPassesIdentityRow.holds Try.pinned (OpenSpec.ofChange Rows.fnNeedsSignInAgreesWithPassesIdentitySpec) :=
  OpenClaim.holds_of_wide 4 Try.f4 rfl rfl rfl rfl rfl rfl rfl ⟨rfl, rfl, rfl, rfl, rfl⟩ rfl rfl rfl rfl rfl (by kernel_rfl) Try.func4 (by kernel_rfl)
    (of_decide_eq_true (by kernel_rfl)) (by unfold Func.isWrapper; first | (rw [if_pos (by decide +kernel)]; kernel_rfl) | (rw [if_neg (by decide +kernel)]; exact ⟨rfl, rfl⟩))
    (fun os started H enc _ => lifted os started H enc)

theorem proved : Rows.FnNeedsSignInAgreesWithPassesIdentitySaid := over
end Go.Proofs.Qxb6614736a.fnNeedsSignInAgreesWithPassesIdentity
