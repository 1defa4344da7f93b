import Derived.Test.Qxb6604323aRows
import Derived.Test.Qxb6604323aLawScript
import Derived.Test.Qxb6604323aOpen2
import Derived.WalkKit
import Derived.ProofKit
import Derived.OpenShut
import Derived.ShutString
import Derived.ChangeOld
import Derived.Below
import Derived.Carry
namespace Go.Proofs.Qxb6604323a.fnReplaceScriptKeepsLastReplacement
open Go.ChangeShapes Go.WideShapes Go.ChangeAt Go.RowKit
set_option linter.unusedVariables false

theorem own : ownKnob Try.prog.godebug = none := by kernel_rfl
theorem laidOut : laidOutB Try.prog = true := by kernel_rfl

set_option maxRecDepth 100000 in
theorem lifted (os : Os) (started : os.Started) (H : Type) (enc : TypeId × Value → H) :
    ReturnsInHanded {} Try.checked os 5 .any (Rows.fnReplaceScriptKeepsLastReplacementSpec.pre6 enc Try.prog Try.f5 Rows.fnReplaceScriptKeepsLastReplacementRow.domain false) (Rows.fnReplaceScriptKeepsLastReplacementSpec.post enc Try.prog Try.f5 false true false false) := by
  refine returnsInHanded_of_change (C := Try.checked) own started (by kernel_rfl) Try.func5
    (ChangeSpec.witness6 (enc := enc) (C := Try.checked) false ⟨#[], #[.slice none 0 0, .slice none 0 0, .slice none 0 0, .slice none 0 0], []⟩ 8 (by kernel_rfl) (by kernel_rfl) (by kernel_rfl) (by kernel_rfl)) ?_
  intro W base args ds gs before hval0 hW hcnd _
  have hval : ∀ (j : Nat) t v, Try.f5.params[j]? = some t → args[j]? = some v → Value.okWide Try.prog W .any base t v := hval0
  have hW' := hW
  obtain ⟨p, q, hA0, hV, rfl, hfz, hnd⟩ := hW
  have hA : DataW.TrodAll enc Try.prog W 0 (fun _ => true) true Try.f5.params.toList args.toList ds p := hA0
  rw [Try.params5] at hA hval
  obtain ⟨v0, vs0, d0, ds0, p0, q0, hargs, rfl, rfl, h0, r0⟩ := trodAll_cons hA
  obtain ⟨v1, vs1, d1, ds1, p1, q1, rfl, rfl, rfl, h1, r1⟩ := trodAll_cons r0
  obtain ⟨v2, vs2, d2, ds2, p2, q2, rfl, rfl, rfl, h2, r2⟩ := trodAll_cons r1
  obtain ⟨v3, vs3, d3, ds3, p3, q3, rfl, rfl, rfl, h3, r3⟩ := trodAll_cons r2
  obtain ⟨rfl, rfl, rfl⟩ := trodAll_nil r3
  obtain rfl : args = #[v0, v1, v2, v3] := by cases args; simp_all
  obtain ⟨rfl, rfl⟩ := trodVars_none hV
  have k0 := h0
  have lt0 : ∀ x ∈ p0, x.block < W.heap.size := by obtain ⟨m, hm⟩ := k0; exact DataW.trod_lt m _ _ _ hm
  obtain ⟨a0, len0, cap0, rfl⟩ := okWide_slice Try.underlying24 (hval 0 24 v0 rfl rfl)
  obtain ⟨fuel0, hf0⟩ := h0
  obtain ⟨a0', n0', c0', z0, hv0, cs0, wz0, m0⟩ := open_streams (by simpa [Value.cells] using hf0)
  cases hv0
  have k1 := h1
  have lt1 : ∀ x ∈ p1, x.block < W.heap.size := by obtain ⟨m, hm⟩ := k1; exact DataW.trod_lt m _ _ _ hm
  obtain ⟨a1, len1, cap1, rfl⟩ := okWide_slice Try.underlying34 (hval 1 34 v1 rfl rfl)
  obtain ⟨fuel1, hf1⟩ := h1
  obtain ⟨a1', n1', c1', z1, hv1, cs1, wz1, m1⟩ := open_u32s (by simpa [Value.cells] using hf1)
  cases hv1
  have k2 := h2
  have lt2 : ∀ x ∈ p2, x.block < W.heap.size := by obtain ⟨m, hm⟩ := k2; exact DataW.trod_lt m _ _ _ hm
  obtain ⟨a2, len2, cap2, rfl⟩ := okWide_slice Try.underlying34 (hval 2 34 v2 rfl rfl)
  obtain ⟨fuel2, hf2⟩ := h2
  obtain ⟨a2', n2', c2', z2, hv2, cs2, wz2, m2⟩ := open_u32s (by simpa [Value.cells] using hf2)
  cases hv2
  have k3 := h3
  have lt3 : ∀ x ∈ p3, x.block < W.heap.size := by obtain ⟨m, hm⟩ := k3; exact DataW.trod_lt m _ _ _ hm
  obtain ⟨a3, len3, cap3, rfl⟩ := okWide_slice Try.underlying34 (hval 3 34 v3 rfl rfl)
  obtain ⟨fuel3, hf3⟩ := h3
  obtain ⟨a3', n3', c3', z3, hv3, cs3, wz3, m3⟩ := open_u32s (by simpa [Value.cells] using hf3)
  cases hv3
  clear hA0 hval0
  refine (script_walk a0 len0 cap0 z0 a1 len1 cap1 z1 a2 len2 cap2 z2 a3 len3 cap3 z3 W (by unfold maxLen at m0; omega) (by unfold maxLen at m1; omega) (by unfold maxLen at m2; omega) (by unfold maxLen at m3; omega) cs0 wz0.max63 cs1 cs2 cs3 wz1 wz2 wz3).mono fun e W' ⟨he, bel⟩ => ?_
  subst he
  exact ⟨_, rfl, _, _, _, [], _, [], hW', trodAll_mk1 (shut_bool Try.underlying4 _), (trodAll_cons_mk (Below.trod laidOut (by kernel_rfl) (of_decide_eq_true (by kernel_rfl)) k0 bel lt0) (trodAll_cons_mk (Below.trod laidOut (by kernel_rfl) (of_decide_eq_true (by kernel_rfl)) k1 bel lt1) (trodAll_cons_mk (Below.trod laidOut (by kernel_rfl) (of_decide_eq_true (by kernel_rfl)) k2 bel lt2) (trodAll_cons_mk (Below.trod laidOut (by kernel_rfl) (of_decide_eq_true (by kernel_rfl)) k3 bel lt3) trodAll_mk0)))), rfl, bel.frame _, fun h => by cases h⟩

theorem over : Rows.fnReplaceScriptKeepsLastReplacementRow.holds Try.pinned (OpenSpec.ofChange Rows.fnReplaceScriptKeepsLastReplacementSpec) :=
  OpenClaim.holds_of_wide 5 Try.f5 rfl rfl rfl rfl rfl rfl rfl ⟨rfl, rfl, rfl, rfl, rfl⟩ rfl rfl rfl rfl rfl (by kernel_rfl) Try.func5 (by kernel_rfl)
    (of_decide_eq_true (by kernel_rfl)) (by unfold Func.isWrapper; first | (rw [if_pos (by decide +kernel)]; kernel_rfl) | (rw [if_neg (by decide +kernel)]; exact ⟨rfl, rfl⟩))
    (fun os started H enc _ => lifted os started H enc)

theorem proved : Rows.FnReplaceScriptKeepsLastReplacementSaid := over
end Go.Proofs.Qxb6604323a.fnReplaceScriptKeepsLastReplacement
